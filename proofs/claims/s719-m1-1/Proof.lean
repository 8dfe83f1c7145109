import JvmDerived
import JvmDerived.Pilot.@@N@@Statement
import JvmDerived.Pilot.@@N@@Code
set_option linter.unusedVariables false
set_option linter.unusedSimpArgs false
namespace Jvm.OwK
open Jvm Sem ClassFile Op Lib Jvm.Free Jvm.Stand Jvm.LawKit Jvm.RoadKit Bundle
/-- one decoded row of a body, with the place of the next one -/
def Dec (c : ByteArray) (pc : Nat) (i : Instr) (len n : Nat) : Prop := decode c pc = .ok (i, len) ∧ pc + len = n
/-- the run from here ends as F says -/
def Go (p : Program) (e : Env) (below : List Frame) (F : State → Prop) (T : State) (g : JFrame) : Prop := ∃ t, Steps p.tables e below (T.setTop g) t ∧ F t
/-- where a plain step can be taken -/
def Cx (p : Program) (below : List Frame) (m : MethodId) (c : Code) (cd : ByteArray) (T : State) : Prop := At T m c below ∧ p.tables.exec = Jvm.exec ∧ c.code = cd
def ush (x y : Int32) : Int32 := (x.toUInt32 >>> (y &&& 31).toUInt32).toInt32
def ushL (x : Int64) (y : Int32) : Int64 := (x.toUInt64 >>> (y &&& 0x3f).toInt64.toUInt64).toInt64
def lcm (x y : Int64) : Int32 := if x > y then 1 else if x = y then 0 else -1
section Plain
variable {p : Program} {e : Env} {below : List Frame} {F : State → Prop} {T : State} {m : MethodId} {c : Code} {cd : ByteArray} {pc n : Nat} {L : Array Slot} {r : List Value}
theorem Go.st {T' : State} {g g' : JFrame} (h : ∀ t, Steps p.tables e below (T'.setTop g') t → Steps p.tables e below (T.setTop g) t) (k : Go p e below F T' g') : Go p e below F T g := by
  obtain ⟨t, st, f⟩ := k; exact ⟨t, h t st, f⟩
theorem Go.run {T' : State} {g g' : JFrame} (h : Steps p.tables e below (T.setTop g) (T'.setTop g')) (k : Go p e below F T' g') : Go p e below F T g := by
  obtain ⟨t, st, f⟩ := k; exact ⟨t, h.trans st, f⟩
theorem Go.top {x y : Int32} (h : x = y) (k : Go p e below F T (mkF m pc L (.int y :: r))) : Go p e below F T (mkF m pc L (.int x :: r)) := h ▸ k
theorem Go.topL {x y : Int64} (h : x = y) (k : Go p e below F T (mkF m pc L (.long y :: r))) : Go p e below F T (mkF m pc L (.long x :: r)) := h ▸ k
theorem Go.aload_n (C : Cx p below m c cd T) {k : Fin 4} {v : Value} (d : Dec cd pc (.aload_n k) 1 n) (hl : L[k.val]? = some (.val v)) (hv : v.isRef = true)
    (k : Go p e below F T (mkF m n L (v :: r))) : Go p e below F T (mkF m pc L r) := by
  obtain ⟨t, st, f⟩ := k; obtain ⟨d, rfl⟩ := d
  exact ⟨t, XS.aloadN C.1 C.2.1 rfl (hb C.2.2 d) hl hv st, f⟩
theorem Go.aload (C : Cx p below m c cd T) {k : Nat} {v : Value} (d : Dec cd pc (.aload k) 2 n) (hl : L[k]? = some (.val v)) (hv : v.isRef = true)
    (k : Go p e below F T (mkF m n L (v :: r))) : Go p e below F T (mkF m pc L r) := by
  obtain ⟨t, st, f⟩ := k; obtain ⟨d, rfl⟩ := d
  exact ⟨t, XS.aload C.1 C.2.1 rfl (hb C.2.2 d) hl hv st, f⟩
theorem Go.iload_n (C : Cx p below m c cd T) {k : Fin 4} {v : Int32} (d : Dec cd pc (.iload_n k) 1 n) (hl : L[k.val]? = some (.val (.int v)))
    (k : Go p e below F T (mkF m n L (.int v :: r))) : Go p e below F T (mkF m pc L r) := by
  obtain ⟨t, st, f⟩ := k; obtain ⟨d, rfl⟩ := d
  exact ⟨t, XS.iloadN C.1 C.2.1 rfl (hb C.2.2 d) hl st, f⟩
theorem Go.iload (C : Cx p below m c cd T) {k : Nat} {v : Int32} (d : Dec cd pc (.iload k) 2 n) (hl : L[k]? = some (.val (.int v)))
    (k : Go p e below F T (mkF m n L (.int v :: r))) : Go p e below F T (mkF m pc L r) := by
  obtain ⟨t, st, f⟩ := k; obtain ⟨d, rfl⟩ := d
  exact ⟨t, XS.iload C.1 C.2.1 rfl (hb C.2.2 d) hl st, f⟩
theorem Go.lload_n (C : Cx p below m c cd T) {k : Fin 4} {v : Int64} (d : Dec cd pc (.lload_n k) 1 n) (hl : L[k.val]? = some (.val (.long v)))
    (k : Go p e below F T (mkF m n L (.long v :: r))) : Go p e below F T (mkF m pc L r) := by
  obtain ⟨t, st, f⟩ := k; obtain ⟨d, rfl⟩ := d
  exact ⟨t, XS.lloadN C.1 C.2.1 rfl (hb C.2.2 d) hl st, f⟩
theorem Go.lload (C : Cx p below m c cd T) {k : Nat} {v : Int64} (d : Dec cd pc (.lload k) 2 n) (hl : L[k]? = some (.val (.long v)))
    (k : Go p e below F T (mkF m n L (.long v :: r))) : Go p e below F T (mkF m pc L r) := by
  obtain ⟨t, st, f⟩ := k; obtain ⟨d, rfl⟩ := d
  exact ⟨t, XS.lload C.1 C.2.1 rfl (hb C.2.2 d) hl st, f⟩
theorem Go.iconst (C : Cx p below m c cd T) {i : Int} {z : Int32} (d : Dec cd pc (.iconst i) 1 n) (hz : Int32.ofInt i = z)
    (k : Go p e below F T (mkF m n L (.int z :: r))) : Go p e below F T (mkF m pc L r) := by
  obtain ⟨t, st, f⟩ := k; obtain ⟨d, rfl⟩ := d
  subst hz; exact ⟨t, XS.iconst C.1 C.2.1 rfl (hb C.2.2 d)  st, f⟩
theorem Go.bipush (C : Cx p below m c cd T) {i : Int} {z : Int32} (d : Dec cd pc (.bipush i) 2 n) (hz : (Int8.ofInt i).toInt32 = z)
    (k : Go p e below F T (mkF m n L (.int z :: r))) : Go p e below F T (mkF m pc L r) := by
  obtain ⟨t, st, f⟩ := k; obtain ⟨d, rfl⟩ := d
  subst hz; exact ⟨t, XS.bipush C.1 C.2.1 rfl (hb C.2.2 d)  st, f⟩
theorem Go.sipush (C : Cx p below m c cd T) {i : Int} {z : Int32} (d : Dec cd pc (.sipush i) 3 n) (hz : (Int16.ofInt i).toInt32 = z)
    (k : Go p e below F T (mkF m n L (.int z :: r))) : Go p e below F T (mkF m pc L r) := by
  obtain ⟨t, st, f⟩ := k; obtain ⟨d, rfl⟩ := d
  subst hz; exact ⟨t, XS.sipush C.1 C.2.1 rfl (hb C.2.2 d)  st, f⟩
theorem Go.aconst_null (C : Cx p below m c cd T)  (d : Dec cd pc (.aconst_null) 1 n)
    (k : Go p e below F T (mkF m n L (.null :: r))) : Go p e below F T (mkF m pc L r) := by
  obtain ⟨t, st, f⟩ := k; obtain ⟨d, rfl⟩ := d
  exact ⟨t, XS.aconstNull C.1 C.2.1 rfl (hb C.2.2 d)  st, f⟩
theorem Go.iadd (C : Cx p below m c cd T) {x y : Int32} (d : Dec cd pc (.iadd) 1 n)
    (k : Go p e below F T (mkF m n L (.int (x + y) :: r))) : Go p e below F T (mkF m pc L (.int y :: .int x :: r)) := by
  obtain ⟨t, st, f⟩ := k; obtain ⟨d, rfl⟩ := d
  exact ⟨t, XS.iadd C.1 C.2.1 rfl (hb C.2.2 d) rfl st, f⟩
theorem Go.isub (C : Cx p below m c cd T) {x y : Int32} (d : Dec cd pc (.isub) 1 n)
    (k : Go p e below F T (mkF m n L (.int (x - y) :: r))) : Go p e below F T (mkF m pc L (.int y :: .int x :: r)) := by
  obtain ⟨t, st, f⟩ := k; obtain ⟨d, rfl⟩ := d
  exact ⟨t, XS.isub C.1 C.2.1 rfl (hb C.2.2 d) rfl st, f⟩
theorem Go.iand (C : Cx p below m c cd T) {x y : Int32} (d : Dec cd pc (.iand) 1 n)
    (k : Go p e below F T (mkF m n L (.int (x &&& y) :: r))) : Go p e below F T (mkF m pc L (.int y :: .int x :: r)) := by
  obtain ⟨t, st, f⟩ := k; obtain ⟨d, rfl⟩ := d
  exact ⟨t, XS.iand C.1 C.2.1 rfl (hb C.2.2 d) rfl st, f⟩
theorem Go.imul (C : Cx p below m c cd T) {x y : Int32} (d : Dec cd pc (.imul) 1 n)
    (k : Go p e below F T (mkF m n L (.int (x * y) :: r))) : Go p e below F T (mkF m pc L (.int y :: .int x :: r)) := by
  obtain ⟨t, st, f⟩ := k; obtain ⟨d, rfl⟩ := d
  exact ⟨t, XS.imul C.1 C.2.1 rfl (hb C.2.2 d) rfl st, f⟩
theorem Go.ior (C : Cx p below m c cd T) {x y : Int32} (d : Dec cd pc (.ior) 1 n)
    (k : Go p e below F T (mkF m n L (.int (x ||| y) :: r))) : Go p e below F T (mkF m pc L (.int y :: .int x :: r)) := by
  obtain ⟨t, st, f⟩ := k; obtain ⟨d, rfl⟩ := d
  exact ⟨t, XS.ior C.1 C.2.1 rfl (hb C.2.2 d) rfl st, f⟩
theorem Go.ixor (C : Cx p below m c cd T) {x y : Int32} (d : Dec cd pc (.ixor) 1 n)
    (k : Go p e below F T (mkF m n L (.int (x ^^^ y) :: r))) : Go p e below F T (mkF m pc L (.int y :: .int x :: r)) := by
  obtain ⟨t, st, f⟩ := k; obtain ⟨d, rfl⟩ := d
  exact ⟨t, XS.ixor C.1 C.2.1 rfl (hb C.2.2 d) rfl st, f⟩
theorem Go.iushr (C : Cx p below m c cd T) {x y : Int32} (d : Dec cd pc (.iushr) 1 n)
    (k : Go p e below F T (mkF m n L (.int (ush x y) :: r))) : Go p e below F T (mkF m pc L (.int y :: .int x :: r)) := by
  obtain ⟨t, st, f⟩ := k; obtain ⟨d, rfl⟩ := d
  exact ⟨t, XS.iushr C.1 C.2.1 rfl (hb C.2.2 d) rfl st, f⟩
theorem Go.idiv (C : Cx p below m c cd T) {x y : Int32} (d : Dec cd pc (.idiv) 1 n) (hy : y ≠ 0)
    (k : Go p e below F T (mkF m n L (.int (x / y) :: r))) : Go p e below F T (mkF m pc L (.int y :: .int x :: r)) := by
  obtain ⟨t, st, f⟩ := k; obtain ⟨d, rfl⟩ := d
  exact ⟨t, XS.idiv C.1 C.2.1 rfl (hb C.2.2 d) rfl hy st, f⟩
theorem Go.ineg (C : Cx p below m c cd T) {x : Int32} (d : Dec cd pc (.ineg) 1 n)
    (k : Go p e below F T (mkF m n L (.int (-x) :: r))) : Go p e below F T (mkF m pc L (.int x :: r)) := by
  obtain ⟨t, st, f⟩ := k; obtain ⟨d, rfl⟩ := d
  exact ⟨t, XS.ineg C.1 C.2.1 rfl (hb C.2.2 d) rfl st, f⟩
theorem Go.ladd (C : Cx p below m c cd T) {x y : Int64} (d : Dec cd pc (.ladd) 1 n)
    (k : Go p e below F T (mkF m n L (.long (x + y) :: r))) : Go p e below F T (mkF m pc L (.long y :: .long x :: r)) := by
  obtain ⟨t, st, f⟩ := k; obtain ⟨d, rfl⟩ := d
  exact ⟨t, XS.ladd C.1 C.2.1 rfl (hb C.2.2 d) rfl st, f⟩
theorem Go.lsub (C : Cx p below m c cd T) {x y : Int64} (d : Dec cd pc (.lsub) 1 n)
    (k : Go p e below F T (mkF m n L (.long (x - y) :: r))) : Go p e below F T (mkF m pc L (.long y :: .long x :: r)) := by
  obtain ⟨t, st, f⟩ := k; obtain ⟨d, rfl⟩ := d
  exact ⟨t, XS.lsub C.1 C.2.1 rfl (hb C.2.2 d) rfl st, f⟩
theorem Go.lmul (C : Cx p below m c cd T) {x y : Int64} (d : Dec cd pc (.lmul) 1 n)
    (k : Go p e below F T (mkF m n L (.long (x * y) :: r))) : Go p e below F T (mkF m pc L (.long y :: .long x :: r)) := by
  obtain ⟨t, st, f⟩ := k; obtain ⟨d, rfl⟩ := d
  exact ⟨t, XS.lmul C.1 C.2.1 rfl (hb C.2.2 d) rfl st, f⟩
theorem Go.land (C : Cx p below m c cd T) {x y : Int64} (d : Dec cd pc (.land) 1 n)
    (k : Go p e below F T (mkF m n L (.long (x &&& y) :: r))) : Go p e below F T (mkF m pc L (.long y :: .long x :: r)) := by
  obtain ⟨t, st, f⟩ := k; obtain ⟨d, rfl⟩ := d
  exact ⟨t, XS.land C.1 C.2.1 rfl (hb C.2.2 d) rfl st, f⟩
theorem Go.lor (C : Cx p below m c cd T) {x y : Int64} (d : Dec cd pc (.lor) 1 n)
    (k : Go p e below F T (mkF m n L (.long (x ||| y) :: r))) : Go p e below F T (mkF m pc L (.long y :: .long x :: r)) := by
  obtain ⟨t, st, f⟩ := k; obtain ⟨d, rfl⟩ := d
  exact ⟨t, XS.lor C.1 C.2.1 rfl (hb C.2.2 d) rfl st, f⟩
theorem Go.lushr (C : Cx p below m c cd T) {x : Int64} {y : Int32} (d : Dec cd pc (.lushr) 1 n)
    (k : Go p e below F T (mkF m n L (.long (ushL x y) :: r))) : Go p e below F T (mkF m pc L (.int y :: .long x :: r)) := by
  obtain ⟨t, st, f⟩ := k; obtain ⟨d, rfl⟩ := d
  exact ⟨t, XS.lushr C.1 C.2.1 rfl (hb C.2.2 d) rfl st, f⟩
theorem Go.i2l (C : Cx p below m c cd T) {x : Int32} (d : Dec cd pc (.i2l) 1 n)
    (k : Go p e below F T (mkF m n L (.long x.toInt64 :: r))) : Go p e below F T (mkF m pc L (.int x :: r)) := by
  obtain ⟨t, st, f⟩ := k; obtain ⟨d, rfl⟩ := d
  exact ⟨t, XS.i2l C.1 C.2.1 rfl (hb C.2.2 d) rfl st, f⟩
theorem Go.l2i (C : Cx p below m c cd T) {x : Int64} (d : Dec cd pc (.l2i) 1 n)
    (k : Go p e below F T (mkF m n L (.int x.toInt32 :: r))) : Go p e below F T (mkF m pc L (.long x :: r)) := by
  obtain ⟨t, st, f⟩ := k; obtain ⟨d, rfl⟩ := d
  exact ⟨t, XS.l2i C.1 C.2.1 rfl (hb C.2.2 d) rfl st, f⟩
theorem Go.i2b (C : Cx p below m c cd T) {x : Int32} (d : Dec cd pc (.i2b) 1 n)
    (k : Go p e below F T (mkF m n L (.int x.toInt8.toInt32 :: r))) : Go p e below F T (mkF m pc L (.int x :: r)) := by
  obtain ⟨t, st, f⟩ := k; obtain ⟨d, rfl⟩ := d
  exact ⟨t, XS.i2b C.1 C.2.1 rfl (hb C.2.2 d) rfl st, f⟩
theorem Go.i2c (C : Cx p below m c cd T) {x : Int32} (d : Dec cd pc (.i2c) 1 n)
    (k : Go p e below F T (mkF m n L (.int x.toUInt32.toUInt16.toUInt32.toInt32 :: r))) : Go p e below F T (mkF m pc L (.int x :: r)) := by
  obtain ⟨t, st, f⟩ := k; obtain ⟨d, rfl⟩ := d
  exact ⟨t, XS.i2c C.1 C.2.1 rfl (hb C.2.2 d) rfl st, f⟩
theorem Go.lcmp (C : Cx p below m c cd T) {x y : Int64} (d : Dec cd pc (.lcmp) 1 n)
    (k : Go p e below F T (mkF m n L (.int (lcm x y) :: r))) : Go p e below F T (mkF m pc L (.long y :: .long x :: r)) := by
  obtain ⟨t, st, f⟩ := k; obtain ⟨d, rfl⟩ := d
  exact ⟨t, XS.lcmp C.1 C.2.1 rfl (hb C.2.2 d) rfl st, f⟩
theorem Go.dup (C : Cx p below m c cd T) {x : Value} (d : Dec cd pc (.dup) 1 n) (hc : x.category = 1)
    (k : Go p e below F T (mkF m n L (x :: x :: r))) : Go p e below F T (mkF m pc L (x :: r)) := by
  obtain ⟨t, st, f⟩ := k; obtain ⟨d, rfl⟩ := d
  exact ⟨t, XS.dup C.1 C.2.1 rfl (hb C.2.2 d) rfl hc st, f⟩
theorem Go.pop (C : Cx p below m c cd T) {x : Value} (d : Dec cd pc (.pop) 1 n) (hc : x.category = 1)
    (k : Go p e below F T (mkF m n L r)) : Go p e below F T (mkF m pc L (x :: r)) := by
  obtain ⟨t, st, f⟩ := k; obtain ⟨d, rfl⟩ := d
  exact ⟨t, XS.pop C.1 C.2.1 rfl (hb C.2.2 d) rfl hc st, f⟩
theorem Go.istore_n (C : Cx p below m c cd T) {k : Fin 4} {x : Int32} {L' : Array Slot} (d : Dec cd pc (.istore_n k) 1 n) (hl : storeLocals L k.val (.int x) = some L')
    (k : Go p e below F T (mkF m n L' r)) : Go p e below F T (mkF m pc L (.int x :: r)) := by
  obtain ⟨t, st, f⟩ := k; obtain ⟨d, rfl⟩ := d
  exact ⟨t, XS.istoreN C.1 C.2.1 rfl (hb C.2.2 d) rfl hl st, f⟩
theorem Go.istore (C : Cx p below m c cd T) {k : Nat} {x : Int32} {L' : Array Slot} (d : Dec cd pc (.istore k) 2 n) (hl : storeLocals L k (.int x) = some L')
    (k : Go p e below F T (mkF m n L' r)) : Go p e below F T (mkF m pc L (.int x :: r)) := by
  obtain ⟨t, st, f⟩ := k; obtain ⟨d, rfl⟩ := d
  exact ⟨t, XS.istore C.1 C.2.1 rfl (hb C.2.2 d) rfl hl st, f⟩
theorem Go.lstore_n (C : Cx p below m c cd T) {k : Fin 4} {x : Int64} {L' : Array Slot} (d : Dec cd pc (.lstore_n k) 1 n) (hl : storeLocals L k.val (.long x) = some L')
    (k : Go p e below F T (mkF m n L' r)) : Go p e below F T (mkF m pc L (.long x :: r)) := by
  obtain ⟨t, st, f⟩ := k; obtain ⟨d, rfl⟩ := d
  exact ⟨t, XS.lstoreN C.1 C.2.1 rfl (hb C.2.2 d) rfl hl st, f⟩
theorem Go.lstore (C : Cx p below m c cd T) {k : Nat} {x : Int64} {L' : Array Slot} (d : Dec cd pc (.lstore k) 2 n) (hl : storeLocals L k (.long x) = some L')
    (k : Go p e below F T (mkF m n L' r)) : Go p e below F T (mkF m pc L (.long x :: r)) := by
  obtain ⟨t, st, f⟩ := k; obtain ⟨d, rfl⟩ := d
  exact ⟨t, XS.lstore C.1 C.2.1 rfl (hb C.2.2 d) rfl hl st, f⟩
theorem Go.astore_n (C : Cx p below m c cd T) {k : Fin 4} {x : Value} {L' : Array Slot} (d : Dec cd pc (.astore_n k) 1 n) (hv : x.isRef = true) (hl : storeLocals L k.val x = some L')
    (k : Go p e below F T (mkF m n L' r)) : Go p e below F T (mkF m pc L (x :: r)) := by
  obtain ⟨t, st, f⟩ := k; obtain ⟨d, rfl⟩ := d
  exact ⟨t, XS.astoreN C.1 C.2.1 rfl (hb C.2.2 d) rfl hv hl st, f⟩
theorem Go.astore (C : Cx p below m c cd T) {k : Nat} {x : Value} {L' : Array Slot} (d : Dec cd pc (.astore k) 2 n) (hv : x.isRef = true) (hl : storeLocals L k x = some L')
    (k : Go p e below F T (mkF m n L' r)) : Go p e below F T (mkF m pc L (x :: r)) := by
  obtain ⟨t, st, f⟩ := k; obtain ⟨d, rfl⟩ := d
  exact ⟨t, XS.astore C.1 C.2.1 rfl (hb C.2.2 d) rfl hv hl st, f⟩
theorem Go.iinc (C : Cx p below m c cd T) {k : Nat} {i : Int} {x z : Int32} {L' : Array Slot} (d : Dec cd pc (.iinc k i) 3 n) (hl : L[k]? = some (.val (.int x))) (hz : x + Int32.ofInt i = z) (hl' : storeLocals L k (.int z) = some L')
    (k : Go p e below F T (mkF m n L' r)) : Go p e below F T (mkF m pc L r) := by
  obtain ⟨t, st, f⟩ := k; obtain ⟨d, rfl⟩ := d
  exact ⟨t, XS.iinc C.1 C.2.1 rfl (hb C.2.2 d) hl (hz ▸ hl') st, f⟩
theorem Go.irem (C : Cx p below m c cd T) {x y : Int32} (d : Dec cd pc (.irem) 1 n) (hy : y ≠ 0)
    (k : Go p e below F T (mkF m n L (.int (x % y) :: r))) : Go p e below F T (mkF m pc L (.int y :: .int x :: r)) := by
  obtain ⟨t, st, f⟩ := k; obtain ⟨d, rfl⟩ := d
  exact ⟨t, XS.irem C.1 C.2.1 rfl (hb C.2.2 d) rfl hy (by rw [irem_eq_mod]; exact st), f⟩
theorem Go.lconst (C : Cx p below m c cd T) {k0 : Fin 2} {z : Int64} (d : Dec cd pc (.lconst k0) 1 n) (hz : Int64.ofNat k0 = z)
    (k : Go p e below F T (mkF m n L (.long z :: r))) : Go p e below F T (mkF m pc L r) := by
  obtain ⟨t, st, f⟩ := k; obtain ⟨d, rfl⟩ := d
  subst hz; exact ⟨t, XS.lconst C.1 C.2.1 rfl (hb C.2.2 d) st, f⟩
theorem Go.goto (C : Cx p below m c cd T) {o : Int} {q : Nat} (d : Dec cd pc (.goto o) 3 n) (ho : 0 ≤ (pc : Int) + o) (hp : ((pc : Int) + o).toNat = q)
    (k : Go p e below F T (mkF m q L r)) : Go p e below F T (mkF m pc L r) := by
  obtain ⟨t, st, f⟩ := k; obtain ⟨d, rfl⟩ := d
  exact ⟨t, XS.goto C.1 C.2.1 rfl (pc0 := pc) rfl (hb C.2.2 d) ho hp st, f⟩
theorem Go.ifb (C : Cx p below m c cd T) {cc : ClassFile.Cond} {x : Int32} {o : Int} {q : Nat} (d : Dec cd pc (.ifCond cc o) 3 n) (ho : 0 ≤ (pc : Int) + o) (hp : ((pc : Int) + o).toNat = q)
    (k1 : ifCond.holds cc x = true → Go p e below F T (mkF m q L r)) (k2 : ifCond.holds cc x = false → Go p e below F T (mkF m n L r)) : Go p e below F T (mkF m pc L (.int x :: r)) := by
  obtain ⟨d, rfl⟩ := d
  cases hc : ifCond.holds cc x
  · obtain ⟨t, st, f⟩ := k2 hc; exact ⟨t, XS.ifNo C.1 C.2.1 rfl (hb C.2.2 d) rfl hc st, f⟩
  · obtain ⟨t, st, f⟩ := k1 hc; exact ⟨t, XS.ifYes C.1 C.2.1 rfl (pc0 := pc) rfl (hb C.2.2 d) rfl hc ho hp st, f⟩
theorem Go.icb (C : Cx p below m c cd T) {cc : ClassFile.Cond} {x y : Int32} {o : Int} {q : Nat} (d : Dec cd pc (.if_icmp cc o) 3 n) (ho : 0 ≤ (pc : Int) + o) (hp : ((pc : Int) + o).toNat = q)
    (k1 : if_icmp.holds cc x y = true → Go p e below F T (mkF m q L r)) (k2 : if_icmp.holds cc x y = false → Go p e below F T (mkF m n L r)) : Go p e below F T (mkF m pc L (.int y :: .int x :: r)) := by
  obtain ⟨d, rfl⟩ := d
  cases hc : if_icmp.holds cc x y
  · obtain ⟨t, st, f⟩ := k2 hc; exact ⟨t, XS.icmpNo C.1 C.2.1 rfl (hb C.2.2 d) rfl hc st, f⟩
  · obtain ⟨t, st, f⟩ := k1 hc; exact ⟨t, XS.icmpYes C.1 C.2.1 rfl (pc0 := pc) rfl (hb C.2.2 d) rfl hc ho hp st, f⟩
theorem Go.ifeq (C : Cx p below m c cd T) {x : Int32} {o : Int} {q : Nat} (d : Dec cd pc (.ifCond .eq o) 3 n) (ho : 0 ≤ (pc : Int) + o) (hp : ((pc : Int) + o).toNat = q)
    (k1 : x = 0 → Go p e below F T (mkF m q L r)) (k2 : ¬ x = 0 → Go p e below F T (mkF m n L r)) : Go p e below F T (mkF m pc L (.int x :: r)) :=
  Go.ifb C d ho hp (fun h => k1 (by simpa [ifCond.holds] using h)) (fun h => k2 (by simpa [ifCond.holds] using h))
theorem Go.ifne (C : Cx p below m c cd T) {x : Int32} {o : Int} {q : Nat} (d : Dec cd pc (.ifCond .ne o) 3 n) (ho : 0 ≤ (pc : Int) + o) (hp : ((pc : Int) + o).toNat = q)
    (k1 : ¬ x = 0 → Go p e below F T (mkF m q L r)) (k2 : x = 0 → Go p e below F T (mkF m n L r)) : Go p e below F T (mkF m pc L (.int x :: r)) :=
  Go.ifb C d ho hp (fun h => k1 (by simpa [ifCond.holds] using h)) (fun h => k2 (by simpa [ifCond.holds] using h))
theorem Go.iflt (C : Cx p below m c cd T) {x : Int32} {o : Int} {q : Nat} (d : Dec cd pc (.ifCond .lt o) 3 n) (ho : 0 ≤ (pc : Int) + o) (hp : ((pc : Int) + o).toNat = q)
    (k1 : x < 0 → Go p e below F T (mkF m q L r)) (k2 : ¬ x < 0 → Go p e below F T (mkF m n L r)) : Go p e below F T (mkF m pc L (.int x :: r)) :=
  Go.ifb C d ho hp (fun h => k1 (by simpa [ifCond.holds] using h)) (fun h => k2 (by simpa [ifCond.holds] using h))
theorem Go.ifge (C : Cx p below m c cd T) {x : Int32} {o : Int} {q : Nat} (d : Dec cd pc (.ifCond .ge o) 3 n) (ho : 0 ≤ (pc : Int) + o) (hp : ((pc : Int) + o).toNat = q)
    (k1 : ¬ x < 0 → Go p e below F T (mkF m q L r)) (k2 : x < 0 → Go p e below F T (mkF m n L r)) : Go p e below F T (mkF m pc L (.int x :: r)) :=
  Go.ifb C d ho hp (fun h => k1 (by simpa [ifCond.holds] using h)) (fun h => k2 (by simpa [ifCond.holds] using h))
theorem Go.ifgt (C : Cx p below m c cd T) {x : Int32} {o : Int} {q : Nat} (d : Dec cd pc (.ifCond .gt o) 3 n) (ho : 0 ≤ (pc : Int) + o) (hp : ((pc : Int) + o).toNat = q)
    (k1 : 0 < x → Go p e below F T (mkF m q L r)) (k2 : ¬ 0 < x → Go p e below F T (mkF m n L r)) : Go p e below F T (mkF m pc L (.int x :: r)) :=
  Go.ifb C d ho hp (fun h => k1 (by simpa [ifCond.holds] using h)) (fun h => k2 (by simpa [ifCond.holds] using h))
theorem Go.ifle (C : Cx p below m c cd T) {x : Int32} {o : Int} {q : Nat} (d : Dec cd pc (.ifCond .le o) 3 n) (ho : 0 ≤ (pc : Int) + o) (hp : ((pc : Int) + o).toNat = q)
    (k1 : ¬ 0 < x → Go p e below F T (mkF m q L r)) (k2 : 0 < x → Go p e below F T (mkF m n L r)) : Go p e below F T (mkF m pc L (.int x :: r)) :=
  Go.ifb C d ho hp (fun h => k1 (by simpa [ifCond.holds] using h)) (fun h => k2 (by simpa [ifCond.holds] using h))
theorem Go.iceq (C : Cx p below m c cd T) {x y : Int32} {o : Int} {q : Nat} (d : Dec cd pc (.if_icmp .eq o) 3 n) (ho : 0 ≤ (pc : Int) + o) (hp : ((pc : Int) + o).toNat = q)
    (k1 : x = y → Go p e below F T (mkF m q L r)) (k2 : ¬ x = y → Go p e below F T (mkF m n L r)) : Go p e below F T (mkF m pc L (.int y :: .int x :: r)) :=
  Go.icb C d ho hp (fun h => k1 (by simpa [if_icmp.holds] using h)) (fun h => k2 (by simpa [if_icmp.holds] using h))
theorem Go.icne (C : Cx p below m c cd T) {x y : Int32} {o : Int} {q : Nat} (d : Dec cd pc (.if_icmp .ne o) 3 n) (ho : 0 ≤ (pc : Int) + o) (hp : ((pc : Int) + o).toNat = q)
    (k1 : ¬ x = y → Go p e below F T (mkF m q L r)) (k2 : x = y → Go p e below F T (mkF m n L r)) : Go p e below F T (mkF m pc L (.int y :: .int x :: r)) :=
  Go.icb C d ho hp (fun h => k1 (by simpa [if_icmp.holds] using h)) (fun h => k2 (by simpa [if_icmp.holds] using h))
theorem Go.iclt (C : Cx p below m c cd T) {x y : Int32} {o : Int} {q : Nat} (d : Dec cd pc (.if_icmp .lt o) 3 n) (ho : 0 ≤ (pc : Int) + o) (hp : ((pc : Int) + o).toNat = q)
    (k1 : x < y → Go p e below F T (mkF m q L r)) (k2 : ¬ x < y → Go p e below F T (mkF m n L r)) : Go p e below F T (mkF m pc L (.int y :: .int x :: r)) :=
  Go.icb C d ho hp (fun h => k1 (by simpa [if_icmp.holds] using h)) (fun h => k2 (by simpa [if_icmp.holds] using h))
theorem Go.icge (C : Cx p below m c cd T) {x y : Int32} {o : Int} {q : Nat} (d : Dec cd pc (.if_icmp .ge o) 3 n) (ho : 0 ≤ (pc : Int) + o) (hp : ((pc : Int) + o).toNat = q)
    (k1 : ¬ x < y → Go p e below F T (mkF m q L r)) (k2 : x < y → Go p e below F T (mkF m n L r)) : Go p e below F T (mkF m pc L (.int y :: .int x :: r)) :=
  Go.icb C d ho hp (fun h => k1 (by simpa [if_icmp.holds] using h)) (fun h => k2 (by simpa [if_icmp.holds] using h))
theorem Go.icgt (C : Cx p below m c cd T) {x y : Int32} {o : Int} {q : Nat} (d : Dec cd pc (.if_icmp .gt o) 3 n) (ho : 0 ≤ (pc : Int) + o) (hp : ((pc : Int) + o).toNat = q)
    (k1 : y < x → Go p e below F T (mkF m q L r)) (k2 : ¬ y < x → Go p e below F T (mkF m n L r)) : Go p e below F T (mkF m pc L (.int y :: .int x :: r)) :=
  Go.icb C d ho hp (fun h => k1 (by simpa [if_icmp.holds] using h)) (fun h => k2 (by simpa [if_icmp.holds] using h))
theorem Go.icle (C : Cx p below m c cd T) {x y : Int32} {o : Int} {q : Nat} (d : Dec cd pc (.if_icmp .le o) 3 n) (ho : 0 ≤ (pc : Int) + o) (hp : ((pc : Int) + o).toNat = q)
    (k1 : ¬ y < x → Go p e below F T (mkF m q L r)) (k2 : y < x → Go p e below F T (mkF m n L r)) : Go p e below F T (mkF m pc L (.int y :: .int x :: r)) :=
  Go.icb C d ho hp (fun h => k1 (by simpa [if_icmp.holds] using h)) (fun h => k2 (by simpa [if_icmp.holds] using h))
theorem Go.ifnull_y (C : Cx p below m c cd T) {o : Int} {q : Nat} (d : Dec cd pc (.ifnull o) 3 n) (ho : 0 ≤ (pc : Int) + o) (hp : ((pc : Int) + o).toNat = q)
    (k : Go p e below F T (mkF m q L r)) : Go p e below F T (mkF m pc L (.null :: r)) := by
  obtain ⟨t, st, f⟩ := k; obtain ⟨d, rfl⟩ := d
  exact ⟨t, XS.ifnullYes C.1 C.2.1 rfl (pc0 := pc) rfl (hb C.2.2 d) rfl ho hp st, f⟩
theorem Go.ifnull_n (C : Cx p below m c cd T) {o : Int} {a : Addr} (d : Dec cd pc (.ifnull o) 3 n)
    (k : Go p e below F T (mkF m n L r)) : Go p e below F T (mkF m pc L (.ref a :: r)) := by
  obtain ⟨t, st, f⟩ := k; obtain ⟨d, rfl⟩ := d
  exact ⟨t, XS.ifnullNo C.1 C.2.1 rfl (hb C.2.2 d) rfl st, f⟩
theorem Go.ifnonnull_y (C : Cx p below m c cd T) {o : Int} {q : Nat} {a : Addr} (d : Dec cd pc (.ifnonnull o) 3 n) (ho : 0 ≤ (pc : Int) + o) (hp : ((pc : Int) + o).toNat = q)
    (k : Go p e below F T (mkF m q L r)) : Go p e below F T (mkF m pc L (.ref a :: r)) := by
  obtain ⟨t, st, f⟩ := k; obtain ⟨d, rfl⟩ := d
  exact ⟨t, XS.ifnonnullYes C.1 C.2.1 rfl (pc0 := pc) rfl (hb C.2.2 d) rfl ho hp st, f⟩
theorem Go.ifnonnull_n (C : Cx p below m c cd T) {o : Int} (d : Dec cd pc (.ifnonnull o) 3 n)
    (k : Go p e below F T (mkF m n L r)) : Go p e below F T (mkF m pc L (.null :: r)) := by
  obtain ⟨t, st, f⟩ := k; obtain ⟨d, rfl⟩ := d
  exact ⟨t, XS.ifnonnullNo C.1 C.2.1 rfl (hb C.2.2 d) rfl st, f⟩
end Plain
section Walk
/-- a walk stands at T, the heap h: over its own start s whose tables may have come to vm0; what xs names is the walk's own to write -/
def Wk (nw : Prop) (EL : List (String × Nat)) (n0 : Nat) (Z : State) (a0 : Array Value) (own nm : String) (cd : ByteArray) (ml : Nat) (ret : Option FieldType) (p : Program) (l : Launch) (e : Env) (R : Room) (s : State) (m : MethodId) (args : Array Value) (below : List Frame) (meth : Method) (c : Code) (T : State) (h : Heap) (xs : List Addr) (cells slots : Nat) : Prop :=
  ∃ (vm0 : Vm) (k0 : Nat) (locs : List Loc), Stand p l e R (s.setVm vm0) m args below meth c T locs cells slots ∧ T.heap = h ∧ s.Since vm0 k0 ∧ k0 ≤ h.size ∧ (nw → s.WarmedH vm0) ∧ Z.Warmed39 vm0 ∧ vm0.findClass own = some m.cls ∧ EW Z a0 EL ∧ CHr Z EL s.vm s.heap vm0 h ∧ Fr n0 locs ∧ Old Z n0 h ∧
    (∀ x ∈ xs, n0 ≤ x ∧ x < h.size ∧ Safe Z EL vm0 h x) ∧ p.tables.exec = Jvm.exec ∧ c.code = cd ∧ c.maxLocals = ml ∧ meth.sig.returnType = ret ∧ meth.locks = false ∧ meth.name = nm
/-- how a body's walk ends -/
def Endp (nw : Prop) (EL : List (String × Nat)) (n0 : Nat) (Z : State) (below : List Frame) (s : State) (kc ks : Nat) (Q : Option Value → Heap → Prop) (t : State) : Prop :=
  t.status = .running ∧ ∃ v Lc, Ended t below (.returned v) ∧ Q v t.heap ∧ Fr n0 Lc ∧ Old Z n0 t.heap ∧ CHr Z EL s.vm s.heap t.vm t.heap ∧ ReturnedEndW s (.returned v) t Lc kc ks ∧ (nw → s.WarmedH t.vm)
/-- a body's contract -/
def Ctr (nw : Prop) (EL : List (String × Nat)) (n0 : Nat) (Z : State) (xs : List Addr) (l : Launch) (y : MethodName) (bytes : ByteArray) (maxL : Nat) (ret : Option FieldType) (rm : Room) (as' : Array Value) (h : Heap) (Q : Option Value → Heap → Prop) : Prop :=
  ∀ ws, MetFree l y (head1 (Cond.code y bytes maxL ret :: ws) rm) (fun a U => a = as' ∧ U.heap = h ∧ Z.Warmed39 U.vm ∧ CHv Z EL U.vm h ∧ ∀ x ∈ xs, Safe Z EL U.vm h x) (fun _ _ _ _ _ => True)
    (fun _ U o U' => ∃ v Lc, o = .returned v ∧ Q v U'.heap ∧ Fr n0 Lc ∧ Old Z n0 U'.heap ∧ CHr Z EL U.vm U.heap U'.vm U'.heap ∧ ReturnedEndW U o U' Lc rm.cells rm.slots ∧ (nw → U.WarmedH U'.vm))
/-- a call that comes back -/
def Call (nw : Prop) (EL : List (String × Nat)) (n0 : Nat) (Z : State) (xs : List Addr) (l : Launch) (R : Room) (p : Program) (e : Env) (below : List Frame) (s : State) (args : Array Value) (y : MethodName) (len W : Nat) (as' : Array Value) (h : Heap) (kc ks : Nat) (Q : Option Value → Heap → Prop) : Prop :=
  ∀ vm0, Z.Warmed39 vm0 → CHv Z EL vm0 h → Old Z n0 h → (∀ x ∈ xs, n0 ≤ x ∧ x < h.size ∧ Safe Z EL vm0 h x) →
    BackS l R p e below (s.setVm vm0) args y len W (fun A a => a = as' ∧ A.U.heap = h ∧ A.cells + kc ≤ R.cells ∧ A.slots + ks ≤ R.slots)
      (fun A _ v B => ∃ Lc, Q v B.U.heap ∧ B.locs = A.locs ++ Lc ∧ B.cells = A.cells + kc ∧ B.slots = A.slots + ks ∧ Fr n0 Lc ∧ Old Z n0 B.U.heap ∧ CHr Z EL vm0 h B.U.vm B.U.heap ∧ (nw → (s.setVm vm0).WarmedH B.U.vm))
/-- what a body hands back: a value, or nothing -/
def RV (Q : Value → Heap → Prop) (v : Option Value) (h : Heap) : Prop := ∃ w, v = some w ∧ Q w h
def RN (Q : Heap → Prop) (v : Option Value) (h : Heap) : Prop := v = none ∧ Q h
variable {nw : Prop} {EL : List (String × Nat)} {n0 : Nat} {Z : State} {a0 : Array Value} {own nm : String} {cd : ByteArray} {ml : Nat} {ret : Option FieldType} {p : Program} {l : Launch} {e : Env} {R : Room} {s : State} {m : MethodId} {args : Array Value} {below : List Frame} {meth : Method} {c : Code} {T : State} {h : Heap} {xs : List Addr} {cells slots : Nat}
variable {F : State → Prop} {pc n : Nat} {L : Array Slot} {r : List Value}
theorem Wk.cx (W : Wk nw EL n0 Z a0 own nm cd ml ret p l e R s m args below meth c T h xs cells slots) : Cx p below m c cd T := by
  obtain ⟨vm0, k0, locs, X, eT, hS, hk, hn, hZ, ho, hE, hC, hF, hO, hxs, hx, hby, rest⟩ := W
  exact ⟨X.here, hx, hby⟩
theorem Wk.old (W : Wk nw EL n0 Z a0 own nm cd ml ret p l e R s m args below meth c T h xs cells slots) : Old Z n0 h := by
  obtain ⟨vm0, k0, locs, X, eT, hS, hk, hn, hZ, ho, hE, hC, hF, hO, hxs, rest⟩ := W
  exact hO
theorem Wk.ew (W : Wk nw EL n0 Z a0 own nm cd ml ret p l e R s m args below meth c T h xs cells slots) : EW Z a0 EL := by
  obtain ⟨vm0, k0, locs, X, eT, hS, hk, hn, hZ, ho, hE, rest⟩ := W
  exact hE
theorem old_le (hO : Old Z n0 h) : n0 ≤ h.size := hO.1 ▸ hO.2.1
theorem Wk.mine (W : Wk nw EL n0 Z a0 own nm cd ml ret p l e R s m args below meth c T h xs cells slots) {x : Addr} (hm : x ∈ xs) : n0 ≤ x ∧ x < h.size := by
  obtain ⟨vm0, k0, locs, X, eT, hS, hk, hn, hZ, ho, hE, hC, hF, hO, hxs, rest⟩ := W
  exact ⟨(hxs x hm).1, (hxs x hm).2.1⟩
theorem Wk.mono (W : Wk nw EL n0 Z a0 own nm cd ml ret p l e R s m args below meth c T h xs cells slots) {cells' slots' : Nat} (h1 : cells ≤ cells') (h2 : slots ≤ slots') : Wk nw EL n0 Z a0 own nm cd ml ret p l e R s m args below meth c T h xs cells' slots' := by
  obtain ⟨vm0, k0, locs, X, rest⟩ := W
  exact ⟨vm0, k0, locs, ⟨X.admits, X.cas, X.clock, X.frames, X.room, X.hears, X.method, X.code, X.here, X.tail, X.warmed, X.limits, X.bytes, X.same.mono h1 h2⟩, rest⟩
theorem Wk.less (W : Wk nw EL n0 Z a0 own nm cd ml ret p l e R s m args below meth c T h xs cells slots) {xs' : List Addr} (hs : ∀ x ∈ xs', x ∈ xs) : Wk nw EL n0 Z a0 own nm cd ml ret p l e R s m args below meth c T h xs' cells slots := by
  obtain ⟨vm0, k0, locs, X, eT, hS, hk, hn, hZ, ho, hE, hC, hF, hO, hxs, rest⟩ := W
  exact ⟨vm0, k0, locs, X, eT, hS, hk, hn, hZ, ho, hE, hC, hF, hO, fun x q => hxs x (hs x q), rest⟩
theorem Wk.exa (W : Wk nw EL n0 Z a0 own nm cd ml ret p l e R s m args below meth c T h xs cells slots) {x : Addr} {C : String} (E : Exa Z h x C) (hx : n0 ≤ x) (h1 : C ≠ "java/lang/String") (h2 : C ≠ "[B") : Wk nw EL n0 Z a0 own nm cd ml ret p l e R s m args below meth c T h (x :: xs) cells slots := by
  obtain ⟨vm0, k0, locs, X, eT, hS, hk, hn, hZ, ho, hE, hC, hF, hO, hxs, rest⟩ := W
  refine ⟨vm0, k0, locs, X, eT, hS, hk, hn, hZ, ho, hE, hC, hF, hO, fun y q => ?_, rest⟩
  rcases List.mem_cons.mp q with rfl | q
  · exact ⟨hx, E.lt, Safe.exa hZ.alike E h1 h2⟩
  · exact hxs y q
theorem Wk.arv (W : Wk nw EL n0 Z a0 own nm cd ml ret p l e R s m args below meth c T h xs cells slots) {x : Addr} {k : ClassId} {ty : FieldType} {z : Int32} {vs : List Value} {dv : Value} (E : Arv Z h x k ty z vs dv) (hx : n0 ≤ x) (h1 : ty ≠ .byte) : Wk nw EL n0 Z a0 own nm cd ml ret p l e R s m args below meth c T h (x :: xs) cells slots := by
  obtain ⟨vm0, k0, locs, X, eT, hS, hk, hn, hZ, ho, hE, hC, hF, hO, hxs, rest⟩ := W
  refine ⟨vm0, k0, locs, X, eT, hS, hk, hn, hZ, ho, hE, hC, hF, hO, fun y q => ?_, rest⟩
  rcases List.mem_cons.mp q with rfl | q
  · exact ⟨hx, E.lt, Safe.arv hZ.alike E h1⟩
  · exact hxs y q
/-- getfield -/
theorem Go.getf (W : Wk nw EL n0 Z a0 own nm cd ml ret p l e R s m args below meth c T h xs cells slots) {R0 O f ty : String} {ix : Nat} {a : Addr} {v : Value} (d : Dec cd pc (.getfield ix) 3 n) (w : (Cond.fieldLink own ix R0 f ty).before a0 Z = true) (via : Via Z R0 O f ty) (Fl : Fld Z h a O f ty v)
    (k : ∀ T', Wk nw EL n0 Z a0 own nm cd ml ret p l e R s m args below meth c T' h xs cells slots → Go p e below F T' (mkF m n L (v :: r))) : Go p e below F T (mkF m pc L (.ref a :: r)) := by
  obtain ⟨vm0, k0, locs, X, eT, hS, hk, hn, hZ, ho, hE, hC, hF, hO, hxs, hx, hby, rest⟩ := W
  obtain ⟨d, rfl⟩ := d
  obtain ⟨T', X', e', st⟩ := getF X hx hZ ho (host := "") (Or.inl w) via eT Fl (g := mkF m pc L (.ref a :: r)) rfl rfl (hb hby d)
  exact Go.st st (k T' ⟨vm0, k0, locs, X', e', hS, hk, hn, hZ, ho, hE, hC, hF, hO, hxs, hx, hby, rest⟩)
/-- getstatic -/
theorem Go.gets (W : Wk nw EL n0 Z a0 own nm cd ml ret p l e R s m args below meth c T h xs cells slots) {R0 O f ty : String} {ix : Nat} {v : Value} (d : Dec cd pc (.getstatic ix) 3 n) (w : (Cond.fieldLink own ix R0 f ty).before a0 Z = true) (via : Via Z R0 O f ty) (Fl : Sta Z Z.heap O f ty v)
    (k : ∀ T', Wk nw EL n0 Z a0 own nm cd ml ret p l e R s m args below meth c T' h xs cells slots → Go p e below F T' (mkF m n L (v :: r))) : Go p e below F T (mkF m pc L r) := by
  obtain ⟨vm0, k0, locs, X, eT, hS, hk, hn, hZ, ho, hE, hC, hF, hO, hxs, hx, hby, rest⟩ := W
  obtain ⟨d, rfl⟩ := d
  obtain ⟨T', X', e', st⟩ := getS (host := "") X hx hZ ho w via eT (Fl.ext hO.2) (g := mkF m pc L r) rfl (hb hby d)
  exact Go.st st (k T' ⟨vm0, k0, locs, X', e', hS, hk, hn, hZ, ho, hE, hC, hF, hO, hxs, hx, hby, rest⟩)
/-- putfield on an object of the walk's own -/
theorem Go.putf (W : Wk nw EL n0 Z a0 own nm cd ml ret p l e R s m args below meth c T h xs cells slots) {R0 O f ty C : String} {ix kk : Nat} {t : FieldType} {a : Addr} {v v' old : Value} (d : Dec cd pc (.putfield ix) 3 n) (w : (Cond.fieldLink own ix R0 f ty).before a0 Z = true) (via : Via Z R0 O f ty) (Fl : Fld Z h a O f ty old) (E : Exa Z h a C)
    (hl : (Cond.lays C O f ty).before a0 Z = true ∨ ((Cond.laysFinal C O f ty).before a0 Z = true ∧ own = O ∧ nm = "<init>")) (wi : (Cond.instantiable C kk).before a0 Z = true) (hty : parseFieldDescriptor ty = some t) (hnv : narrow t v = v') (hf : fits t v' = true) (ha : a ∈ xs)
    (k : ∀ T' h', Wk nw EL n0 Z a0 own nm cd ml ret p l e R s m args below meth c T' h' xs cells slots → Wr h h' a (RoadKit.slotOf Z O f ty) v' → Go p e below F T' (mkF m n L r)) : Go p e below F T (mkF m pc L (v :: .ref a :: r)) := by
  obtain ⟨vm0, k0, locs, X, eT, hS, hk, hn, hZ, ho, hE, hC, hF, hO, hxs, hx, hby, hml, hrt, hlk, hnm⟩ := W
  obtain ⟨d, rfl⟩ := d
  obtain ⟨T', h', X', e', Wr', st⟩ := putFN X hx hZ ho w via eT Fl E (hl.imp id fun q => ⟨q.1, q.2.1, hnm.trans q.2.2⟩) wi hty hnv hf (g := mkF m pc L (v :: .ref a :: r)) rfl rfl (hb hby d)
  have q := hxs a ha
  have C1 := CHr.wr Wr' q.2.2 hC.1
  have sz : h'.size = h.size := Wr'.size
  exact Go.st st (k T' h' ⟨vm0, k0, _, X', e', hS, by rw [sz]; exact hk, hn, hZ, ho, hE, hC.trans C1, Fr.snoc X' hF q.1, hO.wr Wr' q.1, fun x hm => ⟨(hxs x hm).1, by rw [sz]; exact (hxs x hm).2.1, C1.safe (hxs x hm).2.1 (hxs x hm).2.2⟩, hx, hby, hml, hrt, hlk, hnm⟩ Wr')
/-- new -/
theorem Go.new (W : Wk nw EL n0 Z a0 own nm cd ml ret p l e R s m args below meth c T h xs cells slots) {C : String} {ix kk cells' slots' : Nat} (d : Dec cd pc (.new ix) 3 n) (w : (Cond.classLink own ix C).before a0 Z = true) (wi : (Cond.instantiable C kk).before a0 Z = true) (wz : (Cond.initialized C).before a0 Z = true)
    (hc : cells + 1 = cells') (hs : slots + kk = slots') (hc' : cells' ≤ R.cells) (hs' : slots' ≤ R.slots)
    (k : ∀ T' h' a, a = h.size → Wk nw EL n0 Z a0 own nm cd ml ret p l e R s m args below meth c T' h' (a :: xs) cells' slots' → Ext h h' → Exa Z h' a C → (∀ {O f ty : String} {t : FieldType}, Laid Z a0 C O f ty → parseFieldDescriptor ty = some t → Fld Z h' a O f ty (defaultValue t)) → Go p e below F T' (mkF m n L (.ref a :: r))) : Go p e below F T (mkF m pc L r) := by
  obtain ⟨vm0, k0, locs, X, eT, hS, hk, hn, hZ, ho, hE, hC, hF, hO, hxs, hx, hby, rest⟩ := W
  obtain ⟨d, rfl⟩ := d
  subst hc hs
  obtain ⟨T', h', X', e', E, A, D, -, st⟩ := newO X hx hZ ho w wi wz eT (g := mkF m pc L r) rfl (hb hby d) hc' hs'
  have C1 := CHr.ext E hC.1
  refine Go.st st (k T' h' h.size rfl ⟨vm0, k0, locs, X', e', hS, Nat.le_trans hk E.1, hn, hZ, ho, hE, hC.trans C1, hF, hO.ext E, fun x hm => ?_, hx, hby, rest⟩ E A (fun l t => D l t))
  rcases List.mem_cons.mp hm with rfl | hm
  · exact ⟨old_le hO, A.lt, Safe.ext E hC.1 (Safe.new (Nat.le_refl _))⟩
  · exact ⟨(hxs x hm).1, Nat.lt_of_lt_of_le (hxs x hm).2.1 E.1, C1.safe (hxs x hm).2.1 (hxs x hm).2.2⟩
/-- newarray -/
theorem Go.newarr (W : Wk nw EL n0 Z a0 own nm cd ml ret p l e R s m args below meth c T h xs cells slots) {aty : ArrayType} {z : Int32} {cap cells' slots' : Nat} (d : Dec cd pc (.newarray aty) 2 n) (w : (Cond.arrayClass (newarray.typeOf aty)).before a0 Z = true)
    (hz : ¬ z < 0) (hcap : z.toNatClampNeg ≤ cap) (hbig : cap * 8 ≤ 536870912) (hc : cells + 1 = cells') (hs : slots + cap = slots') (hc' : cells' ≤ R.cells) (hs' : slots' ≤ R.slots)
    (k : ∀ T' h' a ka, a = h.size → Wk nw EL n0 Z a0 own nm cd ml ret p l e R s m args below meth c T' h' (a :: xs) cells' slots' → Ext h h' → Arv Z h' a ka (newarray.typeOf aty) z [] (defaultValue (newarray.typeOf aty)) → Go p e below F T' (mkF m n L (.ref a :: r))) : Go p e below F T (mkF m pc L (.int z :: r)) := by
  obtain ⟨vm0, k0, locs, X, eT, hS, hk, hn, hZ, ho, hE, hC, hF, hO, hxs, hx, hby, rest⟩ := W
  obtain ⟨d, rfl⟩ := d
  subst hc hs
  obtain ⟨T', h', cA, X', e', E, A, st⟩ := newP X hx hZ w eT (g := mkF m pc L (.int z :: r)) rfl (hb hby d) rfl hz hcap hbig hc' hs'
  have C1 := CHr.ext E hC.1
  refine Go.st st (k T' h' h.size cA rfl ⟨vm0, k0, locs, X', e', hS, Nat.le_trans hk E.1, hn, hZ, ho, hE, hC.trans C1, hF, hO.ext E, fun x hm => ?_, hx, hby, rest⟩ E (Arv.new A hz))
  rcases List.mem_cons.mp hm with rfl | hm
  · exact ⟨old_le hO, A.lt, Safe.ext E hC.1 (Safe.new (Nat.le_refl _))⟩
  · exact ⟨(hxs x hm).1, Nat.lt_of_lt_of_le (hxs x hm).2.1 E.1, C1.safe (hxs x hm).2.1 (hxs x hm).2.2⟩
/-- Object.<init> -/
theorem Go.initObj (W : Wk nw EL n0 Z a0 own nm cd ml ret p l e R s m args below meth c T h xs cells slots) {ix wt : Nat} {a : Addr} (d : Dec cd pc (.invokespecial ix) 3 n) (w1 : (Cond.methodLink own ix Lib.objectInit).before a0 Z = true) (w2 : (Cond.instanceMethod Lib.objectInit).before a0 Z = true) (w3 : (Cond.code Lib.objectInit ⟨#[0xb1]⟩ 1 none).before a0 Z = true)
    (hsz : L.size = ml) (hf : 1 ≤ R.frames) (hw : (r.map fun v => v.category).sum = wt) (hl : wt + 12 ≤ R.locals)
    (k : ∀ T', Wk nw EL n0 Z a0 own nm cd ml ret p l e R s m args below meth c T' h xs cells slots → Go p e below F T' (mkF m n L r)) : Go p e below F T (mkF m pc L (.ref a :: r)) := by
  obtain ⟨vm0, k0, locs, X, eT, hS, hk, hn, hZ, ho, hE, hC, hF, hO, hxs, hx, hby, hml, rest⟩ := W
  obtain ⟨d, rfl⟩ := d
  obtain ⟨T', X', e', st⟩ := initO X hx hZ ho w1 w2 w3 eT (g := mkF m pc L (.ref a :: r)) rfl (hsz.trans hml.symm) rfl (hb hby d) hf (W := wt) (by show 2 * 0 + _ ≤ _; omega) hl
  exact Go.st st (k T' ⟨vm0, k0, locs, X', e', hS, hk, hn, hZ, ho, hE, hC, hF, hO, hxs, hx, hby, hml, rest⟩)
/-- a char[] of the walk, its chars -/
def CArr (Z : State) (h : Heap) (a : Addr) (ka : ClassId) (cs : List Int32) : Prop := Arv Z h a ka .char (Int32.ofNat cs.length) (cs.map Value.int) (.int 0)
theorem CArr.lt {a : Addr} {ka : ClassId} {cs : List Int32} (A : CArr Z h a ka cs) : a < h.size := Arv.lt A
theorem CArr.ext {h' : Heap} {a : Addr} {ka : ClassId} {cs : List Int32} (A : CArr Z h a ka cs) (E : Ext h h') : CArr Z h' a ka cs := Arv.ext A E
theorem CArr.keep {h' : Heap} {a : Addr} {ka : ClassId} {cs : List Int32} {ws : List Addr} (A : CArr Z h a ka cs) (K : Keep h h' ws) (q : a ∉ ws) : CArr Z h' a ka cs := Arv.keep A K q
theorem clamp_nat {i : Nat} (h : i < 2 ^ 31) : (Int32.ofNat i).toNatClampNeg = i := LawKit.clamp_of rfl h
theorem CArr.of_new {a : Addr} {ka : ClassId} {z : Int32} (A : Arv Z h a ka .char z [] (.int 0)) {cs : List Int32} {k : Nat} (hc : cs = List.replicate k 0) (hz : z = Int32.ofNat k) : CArr Z h a ka cs := by
  subst hc hz
  unfold CArr
  rw [List.length_replicate, List.map_replicate]
  exact Arv.pad A (fun i => by simpa using pad_rep [] (.int 0) k i)
theorem in_of {i k : Nat} {z : Int32} (hz : z = Int32.ofNat k) (hi : i < k) (hk : k < 2 ^ 31) : ¬ (Int32.ofNat i) < 0 ∧ (Int32.ofNat i) < z := by
  subst hz
  rw [Int32.lt_iff_toInt_lt, Int32.lt_iff_toInt_lt, LawKit.toInt_of (n := Int32.ofNat i) rfl (by omega), LawKit.toInt_of (n := Int32.ofNat k) rfl hk]
  constructor
  · show ¬ (i : Int) < 0; omega
  · omega
/-- castore into a char[] of the walk's own -/
theorem Go.castore (W : Wk nw EL n0 Z a0 own nm cd ml ret p l e R s m args below meth c T h xs cells slots) {a : Addr} {ka : ClassId} {cs : List Int32} {j x x' : Int32} (i : Nat) (d : Dec cd pc .castore 1 n) (A : CArr Z h a ka cs) (ha : a ∈ xs) (hj : j = Int32.ofNat i) (hi : i < cs.length) (hlen : cs.length < 2 ^ 31) (hx' : nar .char x = x')
    (k : ∀ T' h', Wk nw EL n0 Z a0 own nm cd ml ret p l e R s m args below meth c T' h' xs cells slots → Keep h h' [a] → CArr Z h' a ka (cs.set i x') → Go p e below F T' (mkF m n L r)) : Go p e below F T (mkF m pc L (.int x :: .int j :: .ref a :: r)) := by
  obtain ⟨vm0, k0, locs, X, eT, hS, hk, hn, hZ, ho, hE, hC, hF, hO, hxs, hx, hby, rest⟩ := W
  obtain ⟨d, rfl⟩ := d
  subst hx' hj
  obtain ⟨cl, A1, q1, S1, M1, H1, U1⟩ := id A
  have hin := inb_of S1 (in_of rfl hi hlen)
  obtain ⟨T', h', X', e', Wr', st⟩ := stC X hx hZ eT A1 hin (g := mkF m pc L (.int x :: .int (Int32.ofNat i) :: .ref a :: r)) rfl rfl (hb hby d)
  have q := hxs a ha
  have C1 := CHr.wr Wr' q.2.2 hC.1
  have sz : h'.size = h.size := Wr'.size
  have A2 : CArr Z h' a ka (cs.set i (nar .char x)) := by
    have B := Arv.set A1 q1 S1 M1 H1 U1 (fits_nar_char x) Wr' i (clamp_nat (by omega)) (by simpa using hi)
    unfold CArr
    rw [List.length_set, List.map_set]
    exact B
  exact Go.st st (k T' h' ⟨vm0, k0, _, X', e', hS, by rw [sz]; exact hk, hn, hZ, ho, hE, hC.trans C1, Fr.snoc X' hF q.1, hO.wr Wr' q.1, fun x hm => ⟨(hxs x hm).1, by rw [sz]; exact (hxs x hm).2.1, C1.safe (hxs x hm).2.1 (hxs x hm).2.2⟩, hx, hby, rest⟩ (Keep.of_wr Wr') A2)
/-- caload -/
theorem Go.caload (W : Wk nw EL n0 Z a0 own nm cd ml ret p l e R s m args below meth c T h xs cells slots) {a : Addr} {ka : ClassId} {cs : List Int32} {j v : Int32} (i : Nat) (d : Dec cd pc .caload 1 n) (A : CArr Z h a ka cs) (hj : j = Int32.ofNat i) (hi : i < cs.length) (hlen : cs.length < 2 ^ 31) (hv : cs.getD i 0 = v)
    (k : Go p e below F T (mkF m n L (.int v :: r))) : Go p e below F T (mkF m pc L (.int j :: .ref a :: r)) := by
  obtain ⟨vm0, k0, locs, X, eT, hS, hk, hn, hZ, ho, hE, hC, hF, hO, hxs, hx, hby, rest⟩ := W
  obtain ⟨d, rfl⟩ := d
  subst hj
  obtain ⟨cl, A1, q1, S1, M1, H1, U1⟩ := id A
  have hin := inb_of S1 (in_of rfl hi hlen)
  have hat := Has.at (v := .int v) H1 hin (by rw [clamp_nat (by omega)]; simp only [List.getD_eq_getElem?_getD, List.getElem?_map] at hv ⊢; rw [List.getElem?_eq_getElem hi] at hv ⊢; simpa using hv)
  exact Go.st (fun t st => X.caload hx (by rw [eT]; exact A1.1) (State.isArrayOf_alike hZ.alike A1.2.1) A1.2.2 hin hat (g := mkF m pc L (.int (Int32.ofNat i) :: .ref a :: r)) rfl rfl (hb hby d) t st) k
/-- arraylength -/
theorem Go.alen (W : Wk nw EL n0 Z a0 own nm cd ml ret p l e R s m args below meth c T h xs cells slots) {a : Addr} {ka : ClassId} {ty : FieldType} {z : Int32} {vs : List Value} {dv : Value} (d : Dec cd pc .arraylength 1 n) (A : Arv Z h a ka ty z vs dv)
    (k : Go p e below F T (mkF m n L (.int z :: r))) : Go p e below F T (mkF m pc L (.ref a :: r)) := by
  obtain ⟨vm0, k0, locs, X, eT, hS, hk, hn, hZ, ho, hE, hC, hF, hO, hxs, hx, hby, rest⟩ := W
  obtain ⟨d, rfl⟩ := d
  obtain ⟨cl, A1, q1, S1, M1, H1, U1⟩ := id A
  have e1 := len_of S1 M1
  exact Go.st (fun t st => X.arraylength hx (by rw [eT]; exact A1.1) (State.isArrayOf_alike hZ.alike A1.2.1) (g := mkF m pc L (.ref a :: r)) rfl rfl (hb hby d) t (by rw [e1]; exact st)) k
/-- ldc of an int -/
theorem Go.ldcI (W : Wk nw EL n0 Z a0 own nm cd ml ret p l e R s m args below meth c T h xs cells slots) {ix : Nat} {v : Int32} (d : Dec cd pc (.ldc ix) 2 n) (w : (Cond.constant own ix v).before a0 Z = true)
    (k : Go p e below F T (mkF m n L (.int v :: r))) : Go p e below F T (mkF m pc L r) := by
  obtain ⟨vm0, k0, locs, X, eT, hS, hk, hn, hZ, ho, hE, hC, hF, hO, hxs, hx, hby, rest⟩ := W
  obtain ⟨d, rfl⟩ := d
  exact Go.st (fun t st => X.ldcInt hx ho (mv hZ w) (g := mkF m pc L r) rfl (hb hby d) t st) k
theorem Go.ldc2J (W : Wk nw EL n0 Z a0 own nm cd ml ret p l e R s m args below meth c T h xs cells slots) {ix : Nat} {v : Int64} (d : Dec cd pc (.ldc2_w ix) 3 n) (w : (Cond.constantLong own ix v).before a0 Z = true)
    (k : Go p e below F T (mkF m n L (.long v :: r))) : Go p e below F T (mkF m pc L r) := by
  obtain ⟨vm0, k0, locs, X, eT, hS, hk, hn, hZ, ho, hE, hC, hF, hO, hxs, hx, hby, rest⟩ := W
  obtain ⟨d, rfl⟩ := d
  exact Go.st (fun t st => X.ldc2Long hx ho (mv hZ w) (g := mkF m pc L r) rfl (hb hby d) t st) k
/-! the ends -/
theorem Go.fin (W : Wk nw EL n0 Z a0 own nm cd ml ret p l e R s m args below meth c T h xs cells slots) {kc ks : Nat} {Q : Option Value → Heap → Prop} {v : Option Value} {g : JFrame} (hc : cells ≤ kc) (hs : slots ≤ ks) (hQ : Q v h) (hv : ret = none → v = none)
    (st : ∀ vm0 locs fs, Stand p l e R (s.setVm vm0) m args below meth c T locs cells slots → p.tables.exec = Jvm.exec → c.code = cd → meth.sig.returnType = ret → (∀ (f : JFrame) (acts : List Action), f.method = m → f.locked = none → f.entered = [] → (doReturn e (T.setTop f) acts v).1 = T.setFrames fs) → Steps p.tables e below (T.setTop g) (T.setFrames fs)) :
    Go p e below (Endp nw EL n0 Z below s kc ks Q) T g := by
  obtain ⟨vm0, k0, locs, X, eT, hS, hk, hn, hZ, ho, hE, hC, hF, hO, hxs, hx, hby, hml, hrt, hlk, hnm⟩ := W
  obtain ⟨fs, hr, hrun, hended, r1, r2, r3, r4⟩ := X.leaveW hS (by rw [eT]; exact hk) (v := v) (fun q => hv (hrt ▸ q)) hlk
  have eh : (T.setFrames fs).heap = h := eT
  refine ⟨T.setFrames fs, st vm0 locs fs X hx hby hrt hr, hrun, v, locs, hended, by rw [eh]; exact hQ, hF, by rw [eh]; exact hO, ?_, ⟨r1, r2, r3, r4.mono hc hs⟩, fun q => ?_⟩
  · show CHr Z EL s.vm s.heap T.vm T.heap
    rw [eT]; exact hC.trans (CHv.at X hZ hE hC.1)
  · exact State.WarmedH.trans (t := s.setVm vm0) (hn q) X.warmed
theorem Go.iret (W : Wk nw EL n0 Z a0 own nm cd ml (some t) p l e R s m args below meth c T h xs cells slots) {kc ks : Nat} {Q : Option Value → Heap → Prop} {z : Int32} (d : Dec cd pc .ireturn 1 n) (ht : t = .int ∨ t = .boolean ∨ t = .byte ∨ t = .char ∨ t = .short) (hn : narrow t (.int z) = .int z) (hc : cells ≤ kc) (hs : slots ≤ ks) (hQ : Q (some (.int z)) h) :
    Go p e below (Endp nw EL n0 Z below s kc ks Q) T (mkF m pc L (.int z :: r)) :=
  Go.fin W hc hs hQ (fun q => nomatch q) (fun vm0 locs fs X hx hby hrt hr => retOut X hx hrt hn (Or.inl ⟨rfl, ht, z, rfl⟩) (hb hby d.1) hr)
theorem Go.aret (W : Wk nw EL n0 Z a0 own nm cd ml (some t) p l e R s m args below meth c T h xs cells slots) {kc ks : Nat} {Q : Option Value → Heap → Prop} {v : Value} (d : Dec cd pc .areturn 1 n) (ht : t.isReference = true) (hv : v.isRef = true) (hn : narrow t v = v) (hc : cells ≤ kc) (hs : slots ≤ ks) (hQ : Q (some v) h) :
    Go p e below (Endp nw EL n0 Z below s kc ks Q) T (mkF m pc L (v :: r)) :=
  Go.fin W hc hs hQ (fun q => nomatch q) (fun vm0 locs fs X hx hby hrt hr => retOut X hx hrt hn (Or.inr (Or.inr (Or.inr (Or.inr ⟨rfl, ht, hv⟩)))) (hb hby d.1) hr)
theorem Go.vret (W : Wk nw EL n0 Z a0 own nm cd ml none p l e R s m args below meth c T h xs cells slots) {kc ks : Nat} {Q : Option Value → Heap → Prop} (d : Dec cd pc .return_ 1 n) (hc : cells ≤ kc) (hs : slots ≤ ks) (hQ : Q none h) :
    Go p e below (Endp nw EL n0 Z below s kc ks Q) T (mkF m pc L []) :=
  Go.fin W hc hs hQ (fun _ => rfl) (fun vm0 locs fs X hx hby hrt hr => X.returnOut hx hrt (hb hby d.1) hr)
/-! contracts -/
theorem Ctr.body {y : MethodName} {bytes : ByteArray} {maxL : Nat} {rm : Room} {as' : Array Value} {Q : Option Value → Heap → Prop} {L0 : Array Slot} (hpn : plainFor y = true) (hE : EW Z a0 EL) (hO : Old Z n0 h) (hxs : ∀ x ∈ xs, n0 ≤ x ∧ x < h.size) (ef : ∀ m, entryFrame m as' maxL = mkF m 0 L0 [])
    (hB : ∀ p e s m below meth c T, Wk nw EL n0 Z a0 y.cls y.name bytes maxL ret p l e rm s m as' below meth c T h xs 0 0 → Go p e below (Endp nw EL n0 Z below s rm.cells rm.slots Q) T (mkF m 0 L0 [])) :
    Ctr nw EL n0 Z xs l y bytes maxL ret rm as' h Q := by
  intro ws
  refine MetFree.of_bodySF hpn hisR ?_
  intro p e s m args below meth c s₁ Bd hml hP hK
  obtain ⟨rfl, hh, hZ, hCH, hS⟩ := hP
  have X0 : Stand p l e rm s m args below meth c s₁ [] 0 0 := Stand.of_body Bd
  have e0 : s₁.heap = h := by rw [← hh, Bd.state]; rfl
  have W : Wk nw EL n0 Z a0 y.cls y.name bytes maxL ret p l e rm s m args below meth c s₁ h xs 0 0 :=
    ⟨s.vm, 0, [], X0, e0, (State.WarmedH.refl s).since 0, Nat.zero_le _, fun _ => State.WarmedH.refl s, hZ, findClass_of_methodNamed Bd.named, hE, by rw [hh]; exact CHr.refl hCH, Fr.nil n0, hO, fun x hm => ⟨(hxs x hm).1, (hxs x hm).2, hS x hm⟩, Bd.exec, Bd.bytes, hml, Bd.returns, Bd.notSynchronized, (name_of_methodNamed Bd.named Bd.method).1⟩
  obtain ⟨t, st, hrun, v, Lc, hend, q1, q2, q3, q4, q5, q6⟩ := hB p e s m below meth c s₁ W
  exact ⟨t, .returned v, castTop (ef m) st, hrun, hend, v, Lc, rfl, q1, q2, q3, q4, q5, q6⟩
theorem Ctr.call {y : MethodName} {bytes : ByteArray} {maxL : Nat} {rt : Option FieldType} {rm : Room} {as' : Array Value} {Q : Option Value → Heap → Prop} {xs' : List Addr} {wt len : Nat} (hM : Ctr nw EL n0 Z xs' l y bytes maxL rt rm as' h Q) (hE : EW Z a0 EL) (wc : (Cond.code y bytes maxL rt).before a0 Z = true) (wz : (Cond.initialized y.cls).before a0 Z = true)
    (hxs : ∀ x ∈ xs', x ∈ xs) (hf : rm.frames + 1 ≤ R.frames) (hl : wt + (maxL + 11) + rm.locals ≤ R.locals) : Call nw EL n0 Z xs l R p e below s args y len wt as' h rm.cells rm.slots Q := by
  intro vm0 hZ hCH hO hX
  refine BackS.of_freeW (bytes := bytes) (maxL := maxL) (ret := rt) (E := fun _ first o t Lc k n => k = rm.cells ∧ n = rm.slots ∧ (∃ v, o = .returned v ∧ Q v t.heap) ∧ Fr n0 Lc ∧ Old Z n0 t.heap ∧ CHr Z EL first.vm first.heap t.vm t.heap ∧ (nw → first.WarmedH t.vm)) (hM []) hf hl ?_ ?_ (fun _ _ _ _ _ _ _ _ _ => trivial) ?_ ?_
  · intro m meth c A a Y hp
    have hU : Z.Warmed39 A.U.vm := wtrans (s := s.setVm vm0) hZ Y.warmed
    exact ⟨by show (Cond.and _ .tt).before a A.U = true; rw [Cond.before_and, mv hU wc]; rfl, mv hU wc, mv hU wz, hp.2.2.1, hp.2.2.2⟩
  · intro m meth c A a g mk Y hp
    have K := CHv.at Y hZ hE hCH
    exact ⟨hp.1, hp.2.1, wtrans (s := s.setVm vm0) hZ Y.warmed, K.1, fun x hm => K.safe (hX x (hxs x hm)).2.1 (hX x (hxs x hm)).2.2⟩
  · rintro a first o t ⟨v, Lc, h1, h2, h3, h4, h5, h6, h7⟩
    exact ⟨Lc, _, _, h6, rfl, rfl, ⟨v, h1, h2⟩, h3, h4, h5, h7⟩
  · rintro m meth c A a g mk v t Lc k n Y hp hq hR ⟨e1, e2, ⟨v', e3, e4⟩, e5, e6, e7, e8⟩
    cases e3; subst e1 e2
    refine ⟨Lc, e4, rfl, rfl, rfl, e5, e6, (CHv.at Y hZ hE hCH).trans ?_, fun q => ?_⟩
    · rw [← hp.2.1]; exact e7
    · exact State.WarmedH.trans (t := (A.U.calling g mk a)) Y.warmed (e8 q)
theorem Call.of_back {y : MethodName} {as' : Array Value} {Q : Option Value → Heap → Prop} {Qb : Option Value → Heap → List Loc → Prop} {len wt kc ks : Nat} (hE : EW Z a0 EL)
    (hB : ∀ vm0, Z.Warmed39 vm0 → Old Z n0 h → Back l R p e below (s.setVm vm0) args y len wt (fun A a => a = as' ∧ A.U.heap = h ∧ A.cells + kc ≤ R.cells ∧ A.slots + ks ≤ R.slots) (fun A _ v B => ∃ Lc, Qb v B.U.heap Lc ∧ B.locs = A.locs ++ Lc ∧ B.cells = A.cells + kc ∧ B.slots = A.slots + ks))
    (hQ : ∀ v h' Lc, Old Z n0 h → Qb v h' Lc → Q v h' ∧ Fr n0 Lc ∧ ∃ ws, Keep h h' ws ∧ ∀ x ∈ ws, x ∈ xs) : Call nw EL n0 Z xs l R p e below s args y len wt as' h kc ks Q := by
  intro vm0 hZ hCH hO hX m meth c A g ig mk a X hg hsize hdg hW hn hp
  obtain ⟨v, B, X', ⟨Lc, q, r1, r2, r3⟩, st⟩ := hB vm0 hZ hO m meth c A g ig mk a X hg hsize hdg hW hn hp
  obtain ⟨hq, hF, ws, K, hws⟩ := hQ v _ Lc hO q
  have C1 : CHr Z EL vm0 h vm0 B.U.heap := CHr.keep K (fun x hm => (hX x (hws x hm)).2.2) hCH
  exact ⟨v, B, X'.retabled X'.warmed.wide, X'.warmed.since _, by rw [hp.2.1]; exact K.1, ⟨Lc, hq, r1, r2, r3, hF, hO.keep K (fun x hm => (hX x (hws x hm)).1), C1.trans (CHv.at X' hZ hE C1.1), fun _ => X'.warmed⟩, st⟩
theorem Call.mono {y : MethodName} {as' : Array Value} {Q : Option Value → Heap → Prop} {len wt kc ks kc' ks' : Nat} (hK : Call nw EL n0 Z xs l R p e below s args y len wt as' h kc ks Q) (h1 : kc ≤ kc') (h2 : ks ≤ ks') : Call nw EL n0 Z xs l R p e below s args y len wt as' h kc' ks' Q := by
  intro vm0 hZ hCH hO hX m meth c A g ig mk a X hg hsize hdg hW hn hp
  obtain ⟨v, B, X', hS, hg', ⟨Lc, q, r1, r2, r3, rest⟩, st⟩ := hK vm0 hZ hCH hO hX m meth c A g ig mk a X hg hsize hdg hW hn ⟨hp.1, hp.2.1, Nat.le_trans (Nat.add_le_add_left h1 _) hp.2.2.1, Nat.le_trans (Nat.add_le_add_left h2 _) hp.2.2.2⟩
  exact ⟨v, ⟨B.U, B.locs, A.cells + kc', A.slots + ks'⟩, ⟨X'.admits, X'.cas, X'.clock, X'.frames, X'.room, X'.hears, X'.method, X'.code, X'.here, X'.tail, X'.warmed, X'.limits, X'.bytes, X'.same.mono (by rw [r2]; exact Nat.add_le_add_left h1 _) (by rw [r3]; exact Nat.add_le_add_left h2 _)⟩, hS, hg', ⟨Lc, q, r1, rfl, rfl, rest⟩, st⟩
theorem Call.weaken {y : MethodName} {as' : Array Value} {Q Q' : Option Value → Heap → Prop} {len wt kc ks : Nat} (hK : Call nw EL n0 Z xs l R p e below s args y len wt as' h kc ks Q) (hq : ∀ v h', Q v h' → Q' v h') : Call nw EL n0 Z xs l R p e below s args y len wt as' h kc ks Q' := by
  intro vm0 hZ hCH hO hX m meth c A g ig mk a X hg hsize hdg hW hn hp
  obtain ⟨v, B, X', hS, hg', ⟨Lc, q, rest⟩, st⟩ := hK vm0 hZ hCH hO hX m meth c A g ig mk a X hg hsize hdg hW hn hp
  exact ⟨v, B, X', hS, hg', ⟨Lc, hq _ _ q, rest⟩, st⟩
theorem Wk.after {vm0 k0 locs} (X : Stand p l e R (s.setVm vm0) m args below meth c T locs cells slots) (eT : T.heap = h) (hS : s.Since vm0 k0) (hk : k0 ≤ h.size) (hn : nw → s.WarmedH vm0) (hZ : Z.Warmed39 vm0) (ho : vm0.findClass own = some m.cls) (hE : EW Z a0 EL) (hC : CHr Z EL s.vm s.heap vm0 h) (hF : Fr n0 locs) (hO : Old Z n0 h) (hxs : ∀ x ∈ xs, n0 ≤ x ∧ x < h.size ∧ Safe Z EL vm0 h x)
    (rest : p.tables.exec = Jvm.exec ∧ c.code = cd ∧ c.maxLocals = ml ∧ meth.sig.returnType = ret ∧ meth.locks = false ∧ meth.name = nm) {B : Pt} {kc ks : Nat} {Lc : List Loc} (X' : Stand p l e R ((s.setVm vm0).setVm B.U.vm) m args below meth c B.U B.locs B.cells B.slots) (hS2 : (s.setVm vm0).Since B.U.vm B.U.heap.size) (hg : T.heap.size ≤ B.U.heap.size)
    (r1 : B.locs = locs ++ Lc) (r2 : B.cells = cells + kc) (r3 : B.slots = slots + ks) (hF' : Fr n0 Lc) (hO' : Old Z n0 B.U.heap) (hC' : CHr Z EL vm0 h B.U.vm B.U.heap) (hn' : nw → (s.setVm vm0).WarmedH B.U.vm) :
    Wk nw EL n0 Z a0 own nm cd ml ret p l e R s m args below meth c B.U B.U.heap xs (cells + kc) (slots + ks) := by
  rw [r1, r2, r3] at X'
  exact ⟨B.U.vm, B.U.heap.size, _, X', rfl, hS.trans hS2 (Nat.le_trans hk (eT ▸ hg)), Nat.le_refl _, fun q => State.WarmedH.trans (t := s.setVm vm0) (hn q) (hn' q), State.Warmed39.trans (t := s.setVm vm0) hZ hS2.1, (hS2.1.alike.findClass _ _).trans ho, hE, hC.trans hC', hF.app hF', hO', fun x hm => ⟨(hxs x hm).1, Nat.lt_of_lt_of_le (hxs x hm).2.1 (eT ▸ hg), hC'.safe (hxs x hm).2.1 (hxs x hm).2.2⟩, rest⟩
/-- invokestatic by a contract -/
theorem Go.invs (W : Wk nw EL n0 Z a0 own nm cd ml ret p l e R s m args below meth c T h xs cells slots) {y : MethodName} {bytes : ByteArray} {maxL ix wt kc ks cells' slots' : Nat} {rt : Option FieldType} {argsL rest st0 : List Value} {Q : Option Value → Heap → Prop} {ps : List FieldType} {pr : Option FieldType} (hK : Call nw EL n0 Z xs l R p e below s args y 3 wt argsL.toArray h kc ks Q) (d : Dec cd pc (.invokestatic ix) 3 n)
    (w1 : (Cond.methodLink own ix y).before a0 Z = true) (w2 : (Cond.static y).before a0 Z = true) (w3 : (Cond.initialized y.cls).before a0 Z = true) (w4 : (Cond.code y bytes maxL rt).before a0 Z = true) (hy : y.cls ≠ "java/lang/invoke/MethodHandle" ∧ y.cls ≠ "java/lang/invoke/VarHandle")
    (hpd : parseMethodDescriptor y.desc = some ⟨ps, pr⟩) (hlen : argsL.length = ps.length) (hsz : L.size = ml) (hst : st0 = argsL.reverse ++ rest) (hw : (rest.map fun v => v.category).sum ≤ wt) (hc : cells + kc = cells') (hs : slots + ks = slots') (hc' : cells' ≤ R.cells) (hs' : slots' ≤ R.slots)
    (k : ∀ T' h' v, Wk nw EL n0 Z a0 own nm cd ml ret p l e R s m args below meth c T' h' xs cells' slots' → h.size ≤ h'.size → Q v h' → Go p e below F T' (mkF m n L (v.toList ++ rest))) : Go p e below F T (mkF m pc L st0) := by
  obtain ⟨vm0, k0, locs, X, eT, hS, hk, hn, hZ, ho, hE, hC, hF, hO, hxs, hx, hby, hml, rst⟩ := W
  obtain ⟨d, rfl⟩ := d
  subst hc hs hst
  obtain ⟨v, vm₁, B, hW1, X', hS2, hg, ⟨Lc, hq, r1, r2, r3, hF', hO', hC', hn'⟩, st⟩ := callSS X hx ho (mv hZ w1) (mv hZ w2) (mv hZ w3) (mv hZ w4) hy (hK vm0 hZ hC.1 hO hxs) (g := mkF m pc L (argsL.reverse ++ rest)) rfl (hsz.trans hml.symm) (argsL := argsL) (rest := rest) (lenOf hpd hlen) rfl (by show 2 * 0 + _ ≤ _; omega) (hb hby d) (fun _ _ => ⟨rfl, eT, hc', hs'⟩)
  exact Go.run st (k B.U B.U.heap v (Wk.after X eT hS hk hn hZ ho hE hC hF hO hxs ⟨hx, hby, hml, rst⟩ X' hS2 hg r1 r2 r3 hF' hO' hC' hn') (eT ▸ hg) hq)
/-- a constructor by a contract -/
theorem Go.invi (W : Wk nw EL n0 Z a0 own nm cd ml ret p l e R s m args below meth c T h xs cells slots) {y : MethodName} {bytes : ByteArray} {maxL ix wt kc ks cells' slots' : Nat} {argsL rest st0 : List Value} {b : Addr} {Q : Heap → Prop} {ps : List FieldType} {pr : Option FieldType} (hK : Call nw EL n0 Z xs l R p e below s args y 3 wt (.ref b :: argsL).toArray h kc ks (RN Q)) (d : Dec cd pc (.invokespecial ix) 3 n)
    (hy1 : y.name = "<init>") (w1 : (Cond.methodLink own ix y).before a0 Z = true) (w2 : (Cond.instanceMethod y).before a0 Z = true) (w4 : (Cond.code y bytes maxL none).before a0 Z = true) (hy : y.cls ≠ "java/lang/invoke/MethodHandle" ∧ y.cls ≠ "java/lang/invoke/VarHandle")
    (hpd : parseMethodDescriptor y.desc = some ⟨ps, pr⟩) (hlen : argsL.length = ps.length) (hsz : L.size = ml) (hst : st0 = argsL.reverse ++ .ref b :: rest) (hw : (rest.map fun v => v.category).sum ≤ wt) (hc : cells + kc = cells') (hs : slots + ks = slots') (hc' : cells' ≤ R.cells) (hs' : slots' ≤ R.slots)
    (k : ∀ T' h', Wk nw EL n0 Z a0 own nm cd ml ret p l e R s m args below meth c T' h' xs cells' slots' → h.size ≤ h'.size → Q h' → Go p e below F T' (mkF m n L rest)) : Go p e below F T (mkF m pc L st0) := by
  obtain ⟨vm0, k0, locs, X, eT, hS, hk, hn, hZ, ho, hE, hC, hF, hO, hxs, hx, hby, hml, rst⟩ := W
  obtain ⟨d, rfl⟩ := d
  subst hc hs hst
  obtain ⟨v, vm₁, B, hW1, X', hS2, hg, ⟨Lc, hq, r1, r2, r3, hF', hO', hC', hn'⟩, st⟩ := X.specialBackS hx hy1 ho (mv hZ w1) (mv hZ w2) (mv hZ w4) hy (hK vm0 hZ hC.1 hO hxs) (g := mkF m pc L (argsL.reverse ++ .ref b :: rest)) rfl (hsz.trans hml.symm) (Steps.refl _) (a := b) (argsL := argsL) (rest := rest) (lenOf hpd hlen) rfl (by show 2 * 0 + _ ≤ _; omega) (hb hby d) (fun _ _ => ⟨rfl, eT, hc', hs'⟩)
  obtain ⟨rfl, hq⟩ := hq
  exact Go.run st (k B.U B.U.heap (Wk.after X eT hS hk hn hZ ho hE hC hF hO hxs ⟨hx, hby, hml, rst⟩ X' hS2 hg r1 r2 r3 hF' hO' hC' hn') (eT ▸ hg) hq)
/-- invokevirtual by a contract -/
theorem Go.invv (W : Wk nw EL n0 Z a0 own nm cd ml ret p l e R s m args below meth c T h xs cells slots) {y z : MethodName} {C : String} {ix wt kc ks cells' slots' : Nat} {argsL rest st0 : List Value} {b : Addr} {Q : Option Value → Heap → Prop} {ps : List FieldType} {pr : Option FieldType} (hK : Call nw EL n0 Z xs l R p e below s args z 3 wt (.ref b :: argsL).toArray h kc ks Q) (d : Dec cd pc (.invokevirtual ix) 3 n)
    (w1 : (Cond.methodLink own ix y).before a0 Z = true) (w2 : (Cond.declares y).before a0 Z = true) (w3 : (Cond.selects C y z).before a0 Z = true) (w4 : (Cond.instanceMethod z).before a0 Z = true) (hy : y.cls ≠ "java/lang/invoke/MethodHandle" ∧ y.cls ≠ "java/lang/invoke/VarHandle") (E : Exa Z h b C)
    (hpd : parseMethodDescriptor y.desc = some ⟨ps, pr⟩) (hlen : argsL.length = ps.length) (hsz : L.size = ml) (hst : st0 = argsL.reverse ++ .ref b :: rest) (hw : (rest.map fun v => v.category).sum ≤ wt) (hc : cells + kc = cells') (hs : slots + ks = slots') (hc' : cells' ≤ R.cells) (hs' : slots' ≤ R.slots)
    (hnf : ∀ vm0, Z.Warmed39 vm0 → NotFace (s.setVm vm0) y)
    (k : ∀ T' h' v, Wk nw EL n0 Z a0 own nm cd ml ret p l e R s m args below meth c T' h' xs cells' slots' → h.size ≤ h'.size → Q v h' → Go p e below F T' (mkF m n L (v.toList ++ rest))) : Go p e below F T (mkF m pc L st0) := by
  obtain ⟨vm0, k0, locs, X, eT, hS, hk, hn, hZ, ho, hE, hC, hF, hO, hxs, hx, hby, hml, rst⟩ := W
  obtain ⟨d, rfl⟩ := d
  subst hc hs hst
  obtain ⟨cq, kq, qa, qb, qc⟩ := isOf (s := s.setVm vm0) hZ eT E
  obtain ⟨v, vm₁, B, hW1, X', hS2, hg, ⟨Lc, hq, r1, r2, r3, hF', hO', hC', hn'⟩, st⟩ := X.virtualBackS hx ho (mv hZ w1) (mv hZ w2) (hnf vm0 hZ) (mv hZ w3) (mv hZ w4) hy (hK vm0 hZ hC.1 hO hxs) qa qc (g := mkF m pc L (argsL.reverse ++ .ref b :: rest)) rfl (hsz.trans hml.symm) (Steps.refl _) (argsL := argsL) (rest := rest) (lenOf hpd hlen) rfl (by show 2 * 0 + _ ≤ _; omega) (hb hby d) (fun _ _ => ⟨rfl, eT, hc', hs'⟩)
  exact Go.run st (k B.U B.U.heap v (Wk.after X eT hS hk hn hZ ho hE hC hF hO hxs ⟨hx, hby, hml, rst⟩ X' hS2 hg r1 r2 r3 hF' hO' hC' hn') (eT ▸ hg) hq)

theorem Go.invs1 (W : Wk nw EL n0 Z a0 own nm cd ml ret p l e R s m args below meth c T h xs cells slots) {y : MethodName} {bytes : ByteArray} {maxL ix wt kc ks cells' slots' : Nat} {rt : Option FieldType} {argsL rest st0 : List Value} {Q : Value → Heap → Prop} {ps : List FieldType} {pr : Option FieldType} (hK : Call nw EL n0 Z xs l R p e below s args y 3 wt argsL.toArray h kc ks (RV Q)) (d : Dec cd pc (.invokestatic ix) 3 n)
    (w1 : (Cond.methodLink own ix y).before a0 Z = true) (w2 : (Cond.static y).before a0 Z = true) (w3 : (Cond.initialized y.cls).before a0 Z = true) (w4 : (Cond.code y bytes maxL rt).before a0 Z = true) (hy : y.cls ≠ "java/lang/invoke/MethodHandle" ∧ y.cls ≠ "java/lang/invoke/VarHandle")
    (hpd : parseMethodDescriptor y.desc = some ⟨ps, pr⟩) (hlen : argsL.length = ps.length) (hsz : L.size = ml) (hst : st0 = argsL.reverse ++ rest) (hw : (rest.map fun v => v.category).sum ≤ wt) (hc : cells + kc = cells') (hs : slots + ks = slots') (hc' : cells' ≤ R.cells) (hs' : slots' ≤ R.slots)
    (k : ∀ T' h' v, Wk nw EL n0 Z a0 own nm cd ml ret p l e R s m args below meth c T' h' xs cells' slots' → h.size ≤ h'.size → Q v h' → Go p e below F T' (mkF m n L (v :: rest))) : Go p e below F T (mkF m pc L st0) :=
  Go.invs W hK d w1 w2 w3 w4 hy hpd hlen hsz hst hw hc hs hc' hs' (fun T' h' v W' g q => by obtain ⟨w, rfl, q⟩ := q; exact k T' h' w W' g q)
theorem Go.invs0 (W : Wk nw EL n0 Z a0 own nm cd ml ret p l e R s m args below meth c T h xs cells slots) {y : MethodName} {bytes : ByteArray} {maxL ix wt kc ks cells' slots' : Nat} {rt : Option FieldType} {argsL rest st0 : List Value} {Q : Heap → Prop} {ps : List FieldType} {pr : Option FieldType} (hK : Call nw EL n0 Z xs l R p e below s args y 3 wt argsL.toArray h kc ks (RN Q)) (d : Dec cd pc (.invokestatic ix) 3 n)
    (w1 : (Cond.methodLink own ix y).before a0 Z = true) (w2 : (Cond.static y).before a0 Z = true) (w3 : (Cond.initialized y.cls).before a0 Z = true) (w4 : (Cond.code y bytes maxL rt).before a0 Z = true) (hy : y.cls ≠ "java/lang/invoke/MethodHandle" ∧ y.cls ≠ "java/lang/invoke/VarHandle")
    (hpd : parseMethodDescriptor y.desc = some ⟨ps, pr⟩) (hlen : argsL.length = ps.length) (hsz : L.size = ml) (hst : st0 = argsL.reverse ++ rest) (hw : (rest.map fun v => v.category).sum ≤ wt) (hc : cells + kc = cells') (hs : slots + ks = slots') (hc' : cells' ≤ R.cells) (hs' : slots' ≤ R.slots)
    (k : ∀ T' h', Wk nw EL n0 Z a0 own nm cd ml ret p l e R s m args below meth c T' h' xs cells' slots' → h.size ≤ h'.size → Q h' → Go p e below F T' (mkF m n L rest)) : Go p e below F T (mkF m pc L st0) :=
  Go.invs W hK d w1 w2 w3 w4 hy hpd hlen hsz hst hw hc hs hc' hs' (fun T' h' v W' g q => by obtain ⟨rfl, q⟩ := q; exact k T' h' W' g q)
theorem Go.invv1 (W : Wk nw EL n0 Z a0 own nm cd ml ret p l e R s m args below meth c T h xs cells slots) {y : MethodName} {C : String} {ix wt kc ks cells' slots' : Nat} {argsL rest st0 : List Value} {b : Addr} {Q : Value → Heap → Prop} {ps : List FieldType} {pr : Option FieldType} (hK : Call nw EL n0 Z xs l R p e below s args y 3 wt (.ref b :: argsL).toArray h kc ks (RV Q)) (d : Dec cd pc (.invokevirtual ix) 3 n)
    (w1 : (Cond.methodLink own ix y).before a0 Z = true) (w2 : (Cond.declares y).before a0 Z = true) (w3 : (Cond.selects C y y).before a0 Z = true) (w4 : (Cond.instanceMethod y).before a0 Z = true) (hy : y.cls ≠ "java/lang/invoke/MethodHandle" ∧ y.cls ≠ "java/lang/invoke/VarHandle") (E : Exa Z h b C)
    (hpd : parseMethodDescriptor y.desc = some ⟨ps, pr⟩) (hlen : argsL.length = ps.length) (hsz : L.size = ml) (hst : st0 = argsL.reverse ++ .ref b :: rest) (hw : (rest.map fun v => v.category).sum ≤ wt) (hc : cells + kc = cells') (hs : slots + ks = slots') (hc' : cells' ≤ R.cells) (hs' : slots' ≤ R.slots)
    (k : ∀ T' h' v, Wk nw EL n0 Z a0 own nm cd ml ret p l e R s m args below meth c T' h' xs cells' slots' → h.size ≤ h'.size → Q v h' → Go p e below F T' (mkF m n L (v :: rest))) : Go p e below F T (mkF m pc L st0) :=
  Go.invv W hK d w1 w2 w3 w4 hy E hpd hlen hsz hst hw hc hs hc' hs' (fun _ hZ => notFace_of_selects (args := #[]) (mvT hZ w3)) (fun T' h' v W' g q => by obtain ⟨w, rfl, q⟩ := q; exact k T' h' w W' g q)
theorem Go.invv0 (W : Wk nw EL n0 Z a0 own nm cd ml ret p l e R s m args below meth c T h xs cells slots) {y : MethodName} {C : String} {ix wt kc ks cells' slots' : Nat} {argsL rest st0 : List Value} {b : Addr} {Q : Heap → Prop} {ps : List FieldType} {pr : Option FieldType} (hK : Call nw EL n0 Z xs l R p e below s args y 3 wt (.ref b :: argsL).toArray h kc ks (RN Q)) (d : Dec cd pc (.invokevirtual ix) 3 n)
    (w1 : (Cond.methodLink own ix y).before a0 Z = true) (w2 : (Cond.declares y).before a0 Z = true) (w3 : (Cond.selects C y y).before a0 Z = true) (w4 : (Cond.instanceMethod y).before a0 Z = true) (hy : y.cls ≠ "java/lang/invoke/MethodHandle" ∧ y.cls ≠ "java/lang/invoke/VarHandle") (E : Exa Z h b C)
    (hpd : parseMethodDescriptor y.desc = some ⟨ps, pr⟩) (hlen : argsL.length = ps.length) (hsz : L.size = ml) (hst : st0 = argsL.reverse ++ .ref b :: rest) (hw : (rest.map fun v => v.category).sum ≤ wt) (hc : cells + kc = cells') (hs : slots + ks = slots') (hc' : cells' ≤ R.cells) (hs' : slots' ≤ R.slots)
    (k : ∀ T' h', Wk nw EL n0 Z a0 own nm cd ml ret p l e R s m args below meth c T' h' xs cells' slots' → h.size ≤ h'.size → Q h' → Go p e below F T' (mkF m n L rest)) : Go p e below F T (mkF m pc L st0) :=
  Go.invv W hK d w1 w2 w3 w4 hy E hpd hlen hsz hst hw hc hs hc' hs' (fun _ hZ => notFace_of_selects (args := #[]) (mvT hZ w3)) (fun T' h' v W' g q => by obtain ⟨rfl, q⟩ := q; exact k T' h' W' g q)
end Walk
section Strs
variable {Z : State} {h h' : Heap} {a : Addr} {cs : List Int32}
/-- a Latin-1 String and its chars -/
def Str (Z : State) (h : Heap) (a : Addr) (cs : List Int32) : Prop := Exa Z h a "java/lang/String" ∧ Fld Z h a "java/lang/String" "coder" "B" (.int 0) ∧ (∃ (b : Addr) (k : ClassId), Fld Z h a "java/lang/String" "value" "[B" (.ref b) ∧ Arv Z h b k .byte (Int32.ofNat cs.length) ((cs.map fun c => c.toInt8.toInt32).map Value.int) (.int 0)) ∧ (∀ c ∈ cs, ¬ c < 0 ∧ ¬ (255 : Int32) < c) ∧ cs.length ≤ 4000
theorem Str.exa (S : Str Z h a cs) : Exa Z h a "java/lang/String" := S.1
theorem Str.lt (S : Str Z h a cs) : a < h.size := S.1.lt
theorem Str.ext (S : Str Z h a cs) (E : Ext h h') : Str Z h' a cs := by
  obtain ⟨h1, h2, ⟨b, k, h3, h4⟩, r⟩ := S
  exact ⟨h1.ext E, h2.ext E, ⟨b, k, h3.ext E, h4.ext E⟩, r⟩
/-- over the writing of cells made since h0 -/
theorem ext_trans {h0 : Heap} (E : Ext h0 h) (E' : Ext h h') : Ext h0 h' := ⟨Nat.le_trans E.1 E'.1, fun x c q => E'.2 x c (E.2 x c q)⟩
theorem ext_refl (h : Heap) : Ext h h := ⟨Nat.le_refl _, fun _ _ q => q⟩
theorem ext_eq (e : h' = h) : Ext h h' := e ▸ ext_refl h
theorem ext_keep {h0 : Heap} {ws : List Addr} (E : Ext h0 h) (K : Keep h h' ws) (q : ∀ x ∈ ws, h0.size ≤ x) : Ext h0 h' :=
  ⟨Nat.le_trans E.1 K.1, fun x c r => K.2.1 x c (E.2 x c r) fun z => absurd (Array.getElem?_eq_some_iff.mp r).1 (Nat.not_lt.mpr (q x z))⟩
theorem keep_ext (E : Ext h h') : Keep h h' [] := (Keep.refl h []).ext E
/-- a String just made, not yet built -/
def NewS (Z : State) (h : Heap) (a : Addr) : Prop := Exa Z h a "java/lang/String" ∧ Fld Z h a "java/lang/String" "value" "[B" .null ∧ Fld Z h a "java/lang/String" "coder" "B" (.int 0)
theorem NewS.ext (S : NewS Z h a) (E : Ext h h') : NewS Z h' a := ⟨S.1.ext E, S.2.1.ext E, S.2.2.ext E⟩
theorem NewS.keep {ws : List Addr} (S : NewS Z h a) (K : Keep h h' ws) (q : a ∉ ws) : NewS Z h' a := ⟨S.1.keep K, S.2.1.keep K q, S.2.2.keep K q⟩
theorem nar_ok (x : Int32) : nar .char (x &&& 255) = x &&& 255 := i2c_mask x
theorem b255 (x : Int32) : ¬ (x &&& 255) < 0 ∧ ¬ (255 : Int32) < (x &&& 255) := by
  have t : ∀ k : Fin 256, ¬ (Int32.ofNat k.val) < 0 ∧ ¬ (255 : Int32) < (Int32.ofNat k.val) := by decide +kernel
  have h : (x &&& 255).toBitVec.toNat < 256 := by
    simp only [Int32.toBitVec_and, BitVec.toNat_and]
    exact Nat.lt_succ_of_le Nat.and_le_right
  have e : (x &&& 255) = Int32.ofNat (x &&& 255).toBitVec.toNat := by
    apply Int32.toBitVec_inj.mp
    show _ = BitVec.ofNat 32 _
    rw [BitVec.ofNat_toNat]; simp
  rw [e]
  exact t ⟨_, h⟩
theorem up_chars (cs : List Int32) (h : ∀ c ∈ cs, ¬ c < 0 ∧ ¬ (255 : Int32) < c) : ∀ c ∈ cs, ¬ c < 0 ∧ ¬ (65535 : Int32) < c := fun c hc => ⟨(h c hc).1, fun q => (h c hc).2 (by rw [Int32.lt_iff_toInt_lt] at q ⊢; have e1 : (65535 : Int32).toInt = 65535 := rfl; have e2 : (255 : Int32).toInt = 255 := rfl; omega)⟩
theorem all_nil {P : Int32 → Prop} : ∀ c ∈ ([] : List Int32), P c := fun _ q => nomatch q
theorem all_cons {P : Int32 → Prop} {x : Int32} {xs : List Int32} (h : P x) (r : ∀ c ∈ xs, P c) : ∀ c ∈ x :: xs, P c := fun c q => (List.mem_cons.mp q).elim (fun u => u ▸ h) (r c)
end Strs
section Ldc
variable {nw : Prop} {EL : List (String × Nat)} {n0 : Nat} {Z : State} {a0 : Array Value} {own nm : String} {cd : ByteArray} {ml : Nat} {ret : Option FieldType} {p : Program} {l : Launch} {e : Env} {R : Room} {s : State} {m : MethodId} {args : Array Value} {below : List Frame} {meth : Method} {c : Code} {T : State} {h : Heap} {xs : List Addr} {cells slots : Nat}
variable {F : State → Prop} {pc n : Nat} {L : Array Slot} {r : List Value}
/-- ldc of a String constant whose text is read -/
theorem Go.ldcS (W : Wk nw EL n0 Z a0 own nm cd ml ret p l e R s m args below meth c T h xs cells slots) {text : String} {ix nn cells' slots' : Nat} {cs : List Int32} (hnw : ¬ nw) (d : Dec cd pc (.ldc ix) 2 n) (w : (Cond.stringLink own ix text).before a0 Z = true) (wS : ∀ a ∈ Bundle.stringAtoms, a.before a0 Z = true) (hmem : (own, ix) ∈ EL)
    (ht : (∀ c ∈ text.toList, c.toNat < 256) ∧ text.toList.map (fun c => Value.int (Jvm.Lit.byteI c.toNat.toUInt16)) = ((cs.map fun c => c.toInt8.toInt32).map Value.int)) (hp : ∀ c ∈ cs, ¬ c < 0 ∧ ¬ (255 : Int32) < c) (hl4 : cs.length ≤ 4000) (hnn : 4 * text.toList.length ≤ nn) (hbig : nn ≤ 536870912) (hc : cells + 2 = cells') (hs : slots + (nn + 4) = slots') (hc' : cells' ≤ R.cells) (hs' : slots' ≤ R.slots)
    (k : ∀ T' h' a b kb, Wk nw EL n0 Z a0 own nm cd ml ret p l e R s m args below meth c T' h' xs cells' slots' → Ext h h' → Exa Z h' a "java/lang/String" → Fld Z h' a "java/lang/String" "coder" "B" (.int 0) → Fld Z h' a "java/lang/String" "value" "[B" (.ref b) → Arv Z h' b kb .byte (Int32.ofNat cs.length) ((cs.map fun c => c.toInt8.toInt32).map Value.int) (.int 0) → (∀ x ∈ xs, x ≠ a ∧ x ≠ b) → Str Z h' a cs → Go p e below F T' (mkF m n L (.ref a :: r))) : Go p e below F T (mkF m pc L r) := by
  obtain ⟨vm0, k0, locs, X, eT, hS, hk, hn, hZ, ho, hE, hC, hF, hO, hxs, hx, hby, rest⟩ := W
  obtain ⟨d, rfl⟩ := d
  subst hc hs
  have hz := in_of (i := 0) (k := cs.length + 1) rfl (by omega) (by omega)
  have hl : (Int32.ofNat cs.length).toNatClampNeg = ((cs.map fun c => c.toInt8.toInt32).map Value.int).length := by rw [clamp_nat (by omega)]; simp
  obtain ⟨a, T', h', k1, b, kb, X', e', E, hS', hk', hZ', ho', A1, A2, A3, A4, -, -, C1, -, hne, st⟩ := ldcCH X hx hZ ho w wS eT hS hk hE hmem hC.1 ht (by rw [Int32.lt_iff_toInt_lt, LawKit.toInt_of (n := Int32.ofNat cs.length) rfl (by omega)]; show ¬ (cs.length : Int) < 0; omega) hl (g := mkF m pc L r) rfl (hb hby d) hnn hbig hc' hs'
  have hX : ∀ x ∈ xs, n0 ≤ x ∧ x < h'.size ∧ Safe Z EL T'.vm h' x := fun x hm => ⟨(hxs x hm).1, Nat.lt_of_lt_of_le (hxs x hm).2.1 E.1, C1.safe (hxs x hm).2.1 (hxs x hm).2.2⟩
  exact Go.st st (k T' h' a b kb ⟨T'.vm, k1, locs, X', e', hS', hk', fun q => absurd q hnw, hZ', ho', hE, hC.trans C1, hF, hO.ext E, hX, hx, hby, rest⟩ E A1 A2 A3 A4 (fun x hm => hne x (hX x hm).2.2) ⟨A1, A2, ⟨b, kb, A3, A4⟩, hp, hl4⟩)
end Ldc
section Num
theorem toInt_nat {a : Nat} (ha : a < 2 ^ 31) : (Int32.ofNat a).toInt = (a : Int) := LawKit.toInt_of rfl ha
theorem lt_nat {a b : Nat} (ha : a < 2 ^ 31) (hb : b < 2 ^ 31) : Int32.ofNat a < Int32.ofNat b ↔ a < b := by
  rw [Int32.lt_iff_toInt_lt, toInt_nat ha, toInt_nat hb]; omega
theorem eq_nat {a b : Nat} (ha : a < 2 ^ 31) (hb : b < 2 ^ 31) : Int32.ofNat a = Int32.ofNat b ↔ a = b := by
  rw [← Int32.toInt_inj, toInt_nat ha, toInt_nat hb]; omega
theorem eq0_nat {a : Nat} (ha : a < 2 ^ 31) : Int32.ofNat a = 0 ↔ a = 0 := eq_nat (b := 0) ha (by decide)
theorem sub1_nat {a : Nat} (h0 : 0 < a) (ha : a < 2 ^ 31) : Int32.ofNat a - 1 = Int32.ofNat (a - 1) := by
  obtain ⟨b, rfl⟩ : ∃ b, a = b + 1 := ⟨a - 1, by omega⟩
  exact LawKit.dec_ofNat b
theorem add1_nat (a : Nat) : Int32.ofNat a + 1 = Int32.ofNat (a + 1) := (LawKit.inc_ofNat a).symm
/-- a nonnegative int is a number -/
theorem nat_of {x : Int32} (h : ¬ x < 0) : ∃ k : Nat, k < 2 ^ 31 ∧ x = Int32.ofNat k ∧ x.toInt = (k : Int) := by
  rw [Int32.lt_iff_toInt_lt] at h
  have e0 : (0 : Int32).toInt = 0 := rfl
  have hi := Int32.toInt_lt x
  refine ⟨x.toInt.toNat, by omega, ?_, by omega⟩
  rw [← Int32.toInt_inj, toInt_nat (by omega)]; omega
theorem and_nat (x m : Int32) {k : Nat} (hm : m = Int32.ofNat k) (hk : k < 2 ^ 31) : ∃ j : Nat, j ≤ k ∧ x &&& m = Int32.ofNat j := by
  subst hm
  refine ⟨(x &&& Int32.ofNat k).toBitVec.toNat, ?_, ?_⟩
  · simp only [Int32.toBitVec_and, BitVec.toNat_and]
    have : (Int32.ofNat k).toBitVec.toNat = k := by show (BitVec.ofNat 32 k).toNat = k; rw [BitVec.toNat_ofNat]; omega
    rw [this]; exact Nat.and_le_right
  · apply Int32.toBitVec_inj.mp
    show _ = BitVec.ofNat 32 _
    rw [BitVec.ofNat_toNat]; simp
theorem rem_nat {x : Int32} {q j : Nat} (hx : x = Int32.ofNat j) (hj : j < 2 ^ 31) (hq : q < 2 ^ 31) (h0 : 0 < q) : x % Int32.ofNat q = Int32.ofNat (j % q) := by
  subst hx
  have := Nat.mod_lt j h0
  rw [← Int32.toInt_inj, Int32.toInt_mod, toInt_nat hj, toInt_nat hq, toInt_nat (by omega), Int.tmod_eq_emod_of_nonneg (by omega)]
  omega
/-- (x & 0x7fffffff) % q -/
theorem mask_rem (x : Int32) {q : Nat} {y : Int32} (hy : y = Int32.ofNat q) (hq : q < 2 ^ 31) (h0 : 0 < q) : ∃ k : Nat, k < q ∧ (x &&& (2147483647 : Int32)) % y = Int32.ofNat k := by
  subst hy
  obtain ⟨j, hj, e⟩ := and_nat x (2147483647 : Int32) (k := 2147483647) rfl (by decide)
  exact ⟨j % q, Nat.mod_lt _ h0, rem_nat e (by omega) hq h0⟩
theorem not_lt_iff {x y : Int32} : ¬ x < y ↔ y ≤ x := Int32.not_lt
end Num
section Addrs
theorem ne_new {x y : Addr} {h : Heap} (l : x < h.size) (g : y = h.size) : x ≠ y := fun e => by subst e; rw [g] at l; exact Nat.lt_irrefl _ l
theorem nin1 {x y : Addr} {h : Heap} (l : x < h.size) (g : y = h.size) : x ∉ [y] := fun q => ne_new l g (List.mem_singleton.mp q)
theorem all1 {P : Addr → Prop} {y : Addr} (q : P y) : ∀ x ∈ [y], P x := fun x z => (List.mem_singleton.mp z) ▸ q
end Addrs
section Chars
theorem ch_cases {x : Int32} (h : ¬ x < 0 ∧ ¬ (255 : Int32) < x) : ∃ k : Nat, k < 256 ∧ x = Int32.ofNat k := by
  obtain ⟨k, hk, e, ei⟩ := nat_of h.1
  refine ⟨k, ?_, e⟩
  have h2 := h.2
  rw [Int32.lt_iff_toInt_lt, ei] at h2
  have : (255 : Int32).toInt = 255 := rfl
  omega
theorem nar_ch {x : Int32} (h : ¬ x < 0 ∧ ¬ (255 : Int32) < x) : nar .char x = x := by
  obtain ⟨k, hk, rfl⟩ := ch_cases h
  exact (by decide +kernel : ∀ k : Fin 256, nar .char (Int32.ofNat k.val) = Int32.ofNat k.val) ⟨k, hk⟩
theorem narrow_ch {x : Int32} (h : ¬ x < 0 ∧ ¬ (255 : Int32) < x) : narrow .char (.int x) = .int x := by
  show Value.int (nar .char x) = _
  rw [nar_ch h]
theorem i2c_ch {x : Int32} (h : ¬ x < 0 ∧ ¬ (255 : Int32) < x) : x.toUInt32.toUInt16.toUInt32.toInt32 = x := nar_ch h
end Chars
section More
variable {nw : Prop} {EL : List (String × Nat)} {n0 : Nat} {Z : State} {a0 : Array Value} {own nm : String} {cd : ByteArray} {ml : Nat} {ret : Option FieldType} {p : Program} {l : Launch} {e : Env} {R : Room} {s : State} {m : MethodId} {args : Array Value} {below : List Frame} {meth : Method} {c : Code} {T : State} {h : Heap} {xs : List Addr} {cells slots : Nat}
variable {F : State → Prop} {pc n : Nat} {L : Array Slot} {r : List Value}
/-- checkcast of an object of the class -/
theorem Go.cast (W : Wk nw EL n0 Z a0 own nm cd ml ret p l e R s m args below meth c T h xs cells slots) {K : String} {ix : Nat} {a : Addr} (d : Dec cd pc (.checkcast ix) 3 n) (w : (Cond.classLink own ix K).before a0 Z = true) (I : Ins Z h a K true)
    (k : ∀ T', Wk nw EL n0 Z a0 own nm cd ml ret p l e R s m args below meth c T' h xs cells slots → Go p e below F T' (mkF m n L (.ref a :: r))) : Go p e below F T (mkF m pc L (.ref a :: r)) := by
  obtain ⟨vm0, k0, locs, X, eT, hS, hk, hn, hZ, ho, hE, hC, hF, hO, hxs, hx, hby, rest⟩ := W
  obtain ⟨d, rfl⟩ := d
  obtain ⟨T', X', e', st⟩ := castY X hx hZ ho w eT I (g := mkF m pc L (.ref a :: r)) rfl rfl (hb hby d)
  exact Go.st st (k T' ⟨vm0, k0, locs, X', e', hS, hk, hn, hZ, ho, hE, hC, hF, hO, hxs, hx, hby, rest⟩)
/-- instanceof: yes -/
theorem Go.instY (W : Wk nw EL n0 Z a0 own nm cd ml ret p l e R s m args below meth c T h xs cells slots) {K : String} {ix : Nat} {a : Addr} (d : Dec cd pc (.instanceof ix) 3 n) (w : (Cond.classLink own ix K).before a0 Z = true) (I : Ins Z h a K true)
    (k : ∀ T', Wk nw EL n0 Z a0 own nm cd ml ret p l e R s m args below meth c T' h xs cells slots → Go p e below F T' (mkF m n L (.int 1 :: r))) : Go p e below F T (mkF m pc L (.ref a :: r)) := by
  obtain ⟨vm0, k0, locs, X, eT, hS, hk, hn, hZ, ho, hE, hC, hF, hO, hxs, hx, hby, rest⟩ := W
  obtain ⟨d, rfl⟩ := d
  obtain ⟨T', X', e', st⟩ := RoadKit.instY X hx hZ ho w eT I (g := mkF m pc L (.ref a :: r)) rfl rfl (hb hby d)
  exact Go.st st (k T' ⟨vm0, k0, locs, X', e', hS, hk, hn, hZ, ho, hE, hC, hF, hO, hxs, hx, hby, rest⟩)
/-- if_acmpne of two references -/
theorem Go.acne (C : Cx p below m c cd T) {x y : Value} {o : Int} {q : Nat} (d : Dec cd pc (.if_acmp .ne o) 3 n) (hx : x.isRef = true) (hy : y.isRef = true) (ho : 0 ≤ (pc : Int) + o) (hp : ((pc : Int) + o).toNat = q)
    (k1 : ¬ x = y → Go p e below F T (mkF m q L r)) (k2 : x = y → Go p e below F T (mkF m n L r)) : Go p e below F T (mkF m pc L (y :: x :: r)) := by
  obtain ⟨d, rfl⟩ := d
  by_cases hc : x = y
  · obtain ⟨t, st, f⟩ := k2 hc; exact ⟨t, XT.acmpNo C.1 C.2.1 rfl (hb C.2.2 d) rfl hx hy (by simp [XT.acmp, hc]) st, f⟩
  · obtain ⟨t, st, f⟩ := k1 hc; exact ⟨t, XT.acmpYes C.1 C.2.1 rfl (pc0 := pc) rfl (hb C.2.2 d) rfl hx hy (by simp [XT.acmp, hc]) ho hp st, f⟩
theorem Go.aceq (C : Cx p below m c cd T) {x y : Value} {o : Int} {q : Nat} (d : Dec cd pc (.if_acmp .eq o) 3 n) (hx : x.isRef = true) (hy : y.isRef = true) (ho : 0 ≤ (pc : Int) + o) (hp : ((pc : Int) + o).toNat = q)
    (k1 : x = y → Go p e below F T (mkF m q L r)) (k2 : ¬ x = y → Go p e below F T (mkF m n L r)) : Go p e below F T (mkF m pc L (y :: x :: r)) := by
  obtain ⟨d, rfl⟩ := d
  by_cases hc : x = y
  · obtain ⟨t, st, f⟩ := k1 hc; exact ⟨t, XT.acmpYes C.1 C.2.1 rfl (pc0 := pc) rfl (hb C.2.2 d) rfl hx hy (by simp [XT.acmp, hc]) ho hp st, f⟩
  · obtain ⟨t, st, f⟩ := k2 hc; exact ⟨t, XT.acmpNo C.1 C.2.1 rfl (hb C.2.2 d) rfl hx hy (by simp [XT.acmp, hc]) st, f⟩
/-- an enum constant: the static, its class, its ordinal -/
theorem ord_of {C f d K : String} {k : Int32} (hx : (Cond.exactly (Term.static C f d) K).value args Z none Z [] = some true) (ho : (Cond.eq (Term.field (Term.static C f d) "java/lang/Enum" "ordinal" "I") (Term.int k)).value args Z none Z [] = some true)
    (h1 : (Cond.initialized C).before args Z = true) (h2 : (Cond.laysStatic C f d).before args Z = true) : ∃ a, Sta Z Z.heap C f d (.ref a) ∧ Exa Z Z.heap a K ∧ Fld Z Z.heap a "java/lang/Enum" "ordinal" "I" (.int k) := by
  obtain ⟨a, ea⟩ := exa_v hx
  obtain ⟨x, y, hx1, hy1, -⟩ := cmp_v (Or.inl ho)
  have hy2 : (Term.int k).eval args Z none [] Z = some (.int k) := rfl
  rw [hy2] at hy1; cases hy1
  have q : Z.fieldOf? a "java/lang/Enum" "ordinal" "I" = some x := (fld_at ea).symm.trans hx1
  have : x = .int k := by
    cases x with
    | int i => rw [gotT (Cond.eq_ints hx1 hy2) ho]
    | _ => simp [Cond.value, hx1, hy2] at ho
  subst this
  exact ⟨a, Sta.start ea (Or.inr ⟨h1, h2⟩), Exa.start ea hx, Fld.start q⟩
theorem ref_cat {v : Value} (h : v = .null ∨ ∃ a, v = .ref a) : v.isRef = true ∧ v.category = 1 := by rcases h with rfl | ⟨a, rfl⟩ <;> exact ⟨rfl, rfl⟩
end More
section Inst
variable {nw : Prop} {EL : List (String × Nat)} {n0 : Nat} {Z : State} {a0 : Array Value} {own nm : String} {cd : ByteArray} {ml : Nat} {ret : Option FieldType} {p : Program} {l : Launch} {e : Env} {R : Room} {s : State} {m : MethodId} {args : Array Value} {below : List Frame} {meth : Method} {c : Code} {T : State} {h : Heap} {xs : List Addr} {cells slots : Nat}
variable {F : State → Prop} {pc n : Nat} {L : Array Slot} {r : List Value}
/-- a class right beneath the root is no subclass of another one -/
theorem no_sub {C O K : String} {kk : Nat} (w1 : (Cond.superclass C O).before a0 Z = true) (w2 : (Cond.noSuperclass O).before a0 Z = true) (wk : (Cond.instantiable K kk).before a0 Z = true) (h1 : C ≠ K) (h2 : O ≠ K) : ∃ c t, Z.vm.findClass C = some c ∧ Z.vm.findClass K = some t ∧ Z.vm.assignable c t = false := by
  obtain ⟨o, ko, o1, o2, o3, -, -⟩ := Cond.noSuperclass_spec w2
  obtain ⟨c, c0⟩ := found_sup w1
  obtain ⟨p, k, kp, p1, p2, p3, p4, p5, -, p7⟩ := Cond.superclass_spec c0 w1
  cases o1.symm.trans p1
  obtain ⟨t, kt, t1, t2, t3, t4, -⟩ := Cond.instantiable_spec wk
  have n1 := ids_ne c0 t1 h1
  have n2 := ids_ne o1 t1 h2
  have t5 : kt.isInterface = false := by cases q : kt.isInterface <;> simp_all
  have sub : ∀ fuel, Z.vm.isSubclassAux fuel c t = false := fun fuel => by
    rcases fuel with _ | _ | f
    · rfl
    · simp [Vm.isSubclassAux, n1, p2, p4]
    · simp [Vm.isSubclassAux, n1, n2, p2, p4, o2, o3]
  refine ⟨c, t, c0, t1, ?_⟩
  show Z.vm.assignableAux (255 + 1) c t = false
  simp [Vm.assignableAux, n1, p2, t2, p5, t3, t5, Vm.isSubclass, sub]
theorem Go.instN (W : Wk nw EL n0 Z a0 own nm cd ml ret p l e R s m args below meth c T h xs cells slots) {K C : String} {ix : Nat} {a : Addr} (d : Dec cd pc (.instanceof ix) 3 n) (w : (Cond.classLink own ix K).before a0 Z = true) (E : Exa Z h a C) (I : ∃ c t, Z.vm.findClass C = some c ∧ Z.vm.findClass K = some t ∧ Z.vm.assignable c t = false)
    (k : ∀ T', Wk nw EL n0 Z a0 own nm cd ml ret p l e R s m args below meth c T' h xs cells slots → Go p e below F T' (mkF m n L (.int 0 :: r))) : Go p e below F T (mkF m pc L (.ref a :: r)) := by
  obtain ⟨vm0, k0, locs, X, eT, hS, hk, hn, hZ, ho, hE, hC, hF, hO, hxs, hx, hby, rest⟩ := W
  obtain ⟨d, rfl⟩ := d
  obtain ⟨T', X', e', st⟩ := RoadKit.instNo X hx hZ ho w eT E I (g := mkF m pc L (.ref a :: r)) rfl rfl (hb hby d)
  exact Go.st st (k T' ⟨vm0, k0, locs, X', e', hS, hk, hn, hZ, ho, hE, hC, hF, hO, hxs, hx, hby, rest⟩)
theorem Go.inst0 (W : Wk nw EL n0 Z a0 own nm cd ml ret p l e R s m args below meth c T h xs cells slots) {ix : Nat} (d : Dec cd pc (.instanceof ix) 3 n)
    (k : Go p e below F T (mkF m n L (.int 0 :: r))) : Go p e below F T (mkF m pc L (.null :: r)) := by
  obtain ⟨vm0, k0, locs, X, eT, hS, hk, hn, hZ, ho, hE, hC, hF, hO, hxs, hx, hby, rest⟩ := W
  obtain ⟨d, rfl⟩ := d
  exact Go.st (fun t st => X.instanceofNull hx (g := mkF m pc L (.null :: r)) rfl rfl (hb hby d) t st) k
end Inst
section Objs
variable {nw : Prop} {EL : List (String × Nat)} {n0 : Nat} {Z : State} {a0 : Array Value} {own nm : String} {cd : ByteArray} {ml : Nat} {ret : Option FieldType} {p : Program} {l : Launch} {e : Env} {R : Room} {s : State} {m : MethodId} {args : Array Value} {below : List Frame} {meth : Method} {c : Code} {T : State} {h h' : Heap} {xs : List Addr} {cells slots : Nat}
variable {F : State → Prop} {pc n : Nat} {L : Array Slot} {r : List Value}
/-- an empty array of references -/
def OArr (Z : State) (h : Heap) (a : Addr) (C ad : String) : Prop := ∃ cl : Cell, Arr Z h a cl (.object C) ∧ Exa Z h a ad ∧ cl.slots.size = 0
theorem OArr.exa {a : Addr} {C ad : String} (O : OArr Z h a C ad) : Exa Z h a ad := by obtain ⟨_, -, E, -⟩ := O; exact E
theorem OArr.lt {a : Addr} {C ad : String} (O : OArr Z h a C ad) : a < h.size := O.exa.lt
theorem OArr.ext {a : Addr} {C ad : String} (O : OArr Z h a C ad) (E : Ext h h') : OArr Z h' a C ad := by obtain ⟨cl, A, X, S⟩ := O; exact ⟨cl, A.ext E, X.ext E, S⟩
theorem OArr.keep {a : Addr} {C ad : String} {ws : List Addr} (O : OArr Z h a C ad) (K : Keep h h' ws) (q : a ∉ ws) : OArr Z h' a C ad := by obtain ⟨cl, A, X, S⟩ := O; exact ⟨cl, ⟨K.2.1 a cl A.1 q, A.2⟩, X.keep K, S⟩
theorem Go.newobjs0 (W : Wk nw EL n0 Z a0 own nm cd ml ret p l e R s m args below meth c T h xs cells slots) {C ad : String} {ix cells' : Nat} (d : Dec cd pc (.anewarray ix) 3 n) (w1 : (Cond.classLink own ix C).before a0 Z = true) (w2 : (Cond.arrayOver (.object C)).before a0 Z = true)
    (hc : cells + 1 = cells') (hc' : cells' ≤ R.cells) (hs' : slots + 0 ≤ R.slots) (had : "[" ++ (FieldType.object C).toString = ad)
    (k : ∀ T' h' a, a = h.size → Wk nw EL n0 Z a0 own nm cd ml ret p l e R s m args below meth c T' h' (a :: xs) cells' slots → Ext h h' → OArr Z h' a C ad → Go p e below F T' (mkF m n L (.ref a :: r))) : Go p e below F T (mkF m pc L (.int 0 :: r)) := by
  obtain ⟨vm0, k0, locs, X, eT, hS, hk, hn, hZ, ho, hE, hC, hF, hO, hxs, hx, hby, rest⟩ := W
  obtain ⟨d, rfl⟩ := d
  subst hc
  obtain ⟨T', h', cA, X', e', E, A, A2, -, st⟩ := newRE X hx hZ ho w1 w2 eT (g := mkF m pc L (.int 0 :: r)) rfl (hb hby d) rfl (by decide) (cap := 0) (by decide) (by decide) hc' hs' had
  have C1 := CHr.ext E hC.1
  refine Go.st st (k T' h' h.size rfl ⟨vm0, k0, locs, X', e', hS, Nat.le_trans hk E.1, hn, hZ, ho, hE, hC.trans C1, hF, hO.ext E, fun x hm => ?_, hx, hby, rest⟩ E ⟨_, A, A2, by rw [sz_new]; rfl⟩)
  rcases List.mem_cons.mp hm with rfl | hm
  · exact ⟨old_le hO, A.lt, Safe.ext E hC.1 (Safe.new (Nat.le_refl _))⟩
  · exact ⟨(hxs x hm).1, Nat.lt_of_lt_of_le (hxs x hm).2.1 E.1, C1.safe (hxs x hm).2.1 (hxs x hm).2.2⟩
theorem Go.clone0 (W : Wk nw EL n0 Z a0 own nm cd ml ret p l e R s m args below meth c T h xs cells slots) {C ad : String} {ix wt cells' : Nat} {b : Addr} (d : Dec cd pc (.invokevirtual ix) 3 n)
    (w1 : (Cond.methodLink own ix ⟨ad, "clone", "()Ljava/lang/Object;"⟩).before a0 Z = true) (w2 : (Cond.sameMethod ad "java/lang/Object" "clone" "()Ljava/lang/Object;").before a0 Z = true) (w3 : (Cond.native ⟨"java/lang/Object", "clone", "()Ljava/lang/Object;"⟩).before a0 Z = true)
    (w4 : (Cond.instanceMethod ⟨"java/lang/Object", "clone", "()Ljava/lang/Object;"⟩).before a0 Z = true) (w5 : (Cond.selects ad ⟨ad, "clone", "()Ljava/lang/Object;"⟩ ⟨"java/lang/Object", "clone", "()Ljava/lang/Object;"⟩).before a0 Z = true) (w6 : (Cond.castable ad "java/lang/Cloneable").before a0 Z = true)
    (O : OArr Z h b C ad) (hsz : L.size = ml) (hf : 1 ≤ R.frames) (hw : (r.map fun v => v.category).sum ≤ wt) (hl : wt + 14 ≤ R.locals) (hc : cells + 1 = cells') (hc' : cells' ≤ R.cells) (hs' : slots + 0 ≤ R.slots)
    (k : ∀ T' h' a, a = h.size → Wk nw EL n0 Z a0 own nm cd ml ret p l e R s m args below meth c T' h' (a :: xs) cells' slots → Ext h h' → OArr Z h' a C ad → Go p e below F T' (mkF m n L (.ref a :: r))) : Go p e below F T (mkF m pc L (.ref b :: r)) := by
  obtain ⟨vm0, k0, locs, X, eT, hS, hk, hn, hZ, ho, hE, hC, hF, hO, hxs, hx, hby, hml, rest⟩ := W
  obtain ⟨d, rfl⟩ := d
  subst hc
  obtain ⟨cl, A, A2, S⟩ := O
  obtain ⟨T', h', X', e', E, B, B2, st⟩ := cloneA X hx hZ ho w1 w2 w3 w4 w5 w6 eT A A2 (fun i v hv => by have := (Array.getElem?_eq_some_iff.mp hv).1; omega) (g := mkF m pc L (.ref b :: r)) rfl (hsz.trans hml.symm) rfl (hb hby d) hf (W := wt) (cap := 0) (by show 2 * 0 + _ ≤ _; omega) hl (by omega) hc' hs'
  have C1 := CHr.ext E hC.1
  refine Go.st st (k T' h' h.size rfl ⟨vm0, k0, locs, X', e', hS, Nat.le_trans hk E.1, hn, hZ, ho, hE, hC.trans C1, hF, hO.ext E, fun x hm => ?_, hx, hby, hml, rest⟩ E ⟨_, B, B2, by simpa [cloneOf] using S⟩)
  rcases List.mem_cons.mp hm with rfl | hm
  · exact ⟨old_le hO, B.lt, Safe.ext E hC.1 (Safe.new (Nat.le_refl _))⟩
  · exact ⟨(hxs x hm).1, Nat.lt_of_lt_of_le (hxs x hm).2.1 E.1, C1.safe (hxs x hm).2.1 (hxs x hm).2.2⟩
theorem Go.alen0 (W : Wk nw EL n0 Z a0 own nm cd ml ret p l e R s m args below meth c T h xs cells slots) {a : Addr} {C ad : String} (d : Dec cd pc .arraylength 1 n) (O : OArr Z h a C ad)
    (k : Go p e below F T (mkF m n L (.int 0 :: r))) : Go p e below F T (mkF m pc L (.ref a :: r)) := by
  obtain ⟨vm0, k0, locs, X, eT, hS, hk, hn, hZ, ho, hE, hC, hF, hO, hxs, hx, hby, rest⟩ := W
  obtain ⟨d, rfl⟩ := d
  obtain ⟨cl, A, A2, S⟩ := O
  exact Go.st (fun t st => X.arraylength hx (by rw [eT]; exact A.1) (State.isArrayOf_alike hZ.alike A.2.1) (g := mkF m pc L (.ref a :: r)) rfl rfl (hb hby d) t (by rw [S]; exact st)) k
end Objs
section More2
variable {nw : Prop} {EL : List (String × Nat)} {n0 : Nat} {Z : State} {a0 : Array Value} {own nm : String} {cd : ByteArray} {ml : Nat} {ret : Option FieldType} {p : Program} {l : Launch} {e : Env} {R : Room} {s : State} {m : MethodId} {args : Array Value} {below : List Frame} {meth : Method} {c : Code} {T : State} {h h' : Heap} {xs : List Addr} {cells slots : Nat}
variable {F : State → Prop} {pc n : Nat} {L : Array Slot} {r : List Value}
theorem Go.ldcF (W : Wk nw EL n0 Z a0 own nm cd ml ret p l e R s m args below meth c T h xs cells slots) {ix : Nat} {v : UInt32} (d : Dec cd pc (.ldc ix) 2 n) (w : (Cond.constantFloat own ix v).before a0 Z = true)
    (k : Go p e below F T (mkF m n L (.float v :: r))) : Go p e below F T (mkF m pc L r) := by
  obtain ⟨vm0, k0, locs, X, eT, hS, hk, hn, hZ, ho, hE, hC, hF, hO, hxs, hx, hby, rest⟩ := W
  obtain ⟨d, rfl⟩ := d
  exact Go.st (fun t st => X.ldcFloatC hx ho (mv hZ w) (g := mkF m pc L r) rfl (hb hby d) t st) k
/-- invokevirtual of an inherited method, nothing returned -/
theorem Go.invvU0 (W : Wk nw EL n0 Z a0 own nm cd ml ret p l e R s m args below meth c T h xs cells slots) {x y : MethodName} {C owner : String} {ix wt kc ks cells' slots' : Nat} {argsL rest st0 : List Value} {b : Addr} {Q : Heap → Prop} {ps : List FieldType} {pr : Option FieldType} (hK : Call nw EL n0 Z xs l R p e below s args y 3 wt (.ref b :: argsL).toArray h kc ks (RN Q)) (d : Dec cd pc (.invokevirtual ix) 3 n)
    (w1 : (Cond.methodLink own ix x).before a0 Z = true) (w2 : (Cond.sameMethod x.cls owner x.name x.desc).before a0 Z = true) (w3 : (Cond.declares ⟨owner, x.name, x.desc⟩).before a0 Z = true) (how : owner ≠ "java/lang/invoke/MethodHandle" ∧ owner ≠ "java/lang/invoke/VarHandle") (w4 : (Cond.selects C x y).before a0 Z = true) (w5 : (Cond.instanceMethod y).before a0 Z = true) (E : Exa Z h b C)
    (hpd : parseMethodDescriptor x.desc = some ⟨ps, pr⟩) (hlen : argsL.length = ps.length) (hsz : L.size = ml) (hst : st0 = argsL.reverse ++ .ref b :: rest) (hw : (rest.map fun v => v.category).sum ≤ wt) (hc : cells + kc = cells') (hs : slots + ks = slots') (hc' : cells' ≤ R.cells) (hs' : slots' ≤ R.slots)
    (k : ∀ T' h', Wk nw EL n0 Z a0 own nm cd ml ret p l e R s m args below meth c T' h' xs cells' slots' → h.size ≤ h'.size → Q h' → Go p e below F T' (mkF m n L rest)) : Go p e below F T (mkF m pc L st0) := by
  obtain ⟨vm0, k0, locs, X, eT, hS, hk, hn, hZ, ho, hE, hC, hF, hO, hxs, hx, hby, hml, rst⟩ := W
  obtain ⟨d, rfl⟩ := d
  subst hc hs hst
  obtain ⟨cq, kq, qa, qb, qc⟩ := isOf (s := s.setVm vm0) hZ eT E
  obtain ⟨v, vm₁, B, hW1, X', hS2, hg, ⟨Lc, hq, r1, r2, r3, hF', hO', hC', hn'⟩, st⟩ := X.virtualBackUpS hx ho (mv hZ w1) (mv hZ w2) (mv hZ w3) how (mv hZ w4) (mv hZ w5) (hK vm0 hZ hC.1 hO hxs) qa qc (g := mkF m pc L (argsL.reverse ++ .ref b :: rest)) rfl (hsz.trans hml.symm) (Steps.refl _) (argsL := argsL) (rest := rest) (lenOf hpd hlen) rfl (by show 2 * 0 + _ ≤ _; omega) (hb hby d) (fun _ _ => ⟨rfl, eT, hc', hs'⟩)
  obtain ⟨rfl, hq⟩ := hq
  exact Go.run st (k B.U B.U.heap (Wk.after X eT hS hk hn hZ ho hE hC hF hO hxs ⟨hx, hby, hml, rst⟩ X' hS2 hg r1 r2 r3 hF' hO' hC' hn') (eT ▸ hg) hq)
/-- a static that holds a reference -/
theorem sta_ref {C f d : String} {t : FieldType} (hf : Fit Z) (h1 : (Cond.initialized C).before args Z = true) (h2 : (Cond.laysStatic C f d).before args Z = true) (ht : parseFieldDescriptor d = some t) (hr : t.isReference = true) : ∃ v : Value, Sta Z Z.heap C f d v ∧ (v = .null ∨ ∃ r, v = .ref r) := by
  obtain ⟨v, ev, fv⟩ := static_fit hf h2 ht
  exact ⟨v, Sta.start ev (Or.inr ⟨h1, h2⟩), ref_cases (fit_R fv hr)⟩
end More2
section Jdk
variable {nw : Prop} {EL : List (String × Nat)} {n0 : Nat} {Z : State} {a0 : Array Value} {own nm : String} {cd : ByteArray} {ml : Nat} {ret : Option FieldType} {p : Program} {l : Launch} {e : Env} {R : Room} {s : State} {m : MethodId} {args : Array Value} {below : List Frame} {meth : Method} {c : Code} {T : State} {h h' : Heap} {xs : List Addr} {cells slots : Nat}
variable {F : State → Prop} {pc n : Nat} {L : Array Slot} {r : List Value}
/-- the low byte of a char, as a byte[] holds it -/
def by8 (x : Int32) : Int32 := x.toInt8.toInt32
/-- a byte[] that holds chars of 0 to 255 -/
def BArr (Z : State) (h : Heap) (a : Addr) (ka : ClassId) (cs : List Int32) : Prop := Arv Z h a ka .byte (Int32.ofNat cs.length) ((cs.map fun c => c.toInt8.toInt32).map Value.int) (.int 0)
/-- baload -/
theorem Go.baload (W : Wk nw EL n0 Z a0 own nm cd ml ret p l e R s m args below meth c T h xs cells slots) {a : Addr} {ka : ClassId} {cs : List Int32} {j v : Int32} (i : Nat) (d : Dec cd pc .baload 1 n) (A : BArr Z h a ka cs) (hj : j = Int32.ofNat i) (hi : i < cs.length) (hlen : cs.length < 2 ^ 31) (hv : by8 (cs.getD i 0) = v)
    (k : Go p e below F T (mkF m n L (.int v :: r))) : Go p e below F T (mkF m pc L (.int j :: .ref a :: r)) := by
  obtain ⟨vm0, k0, locs, X, eT, hS, hk, hn, hZ, ho, hE, hC, hF, hO, hxs, hx, hby, rest⟩ := W
  obtain ⟨d, rfl⟩ := d
  subst hj
  obtain ⟨cl, A1, q1, S1, M1, H1, U1⟩ := id A
  have hin := inb_of S1 (in_of rfl hi hlen)
  have hat := Has.at (v := .int v) H1 hin (by rw [clamp_nat (by omega)]; unfold by8 at hv; simp only [List.getD_eq_getElem?_getD, List.getElem?_map] at hv ⊢; rw [List.getElem?_eq_getElem hi] at hv ⊢; simpa using hv)
  exact Go.st (fun t st => X.baloadBytes hx (by rw [eT]; exact A1.1) (State.isArrayOf_alike hZ.alike A1.2.1) A1.2.2 hin hat (g := mkF m pc L (.int (Int32.ofNat i) :: .ref a :: r)) rfl rfl (hb hby d) t st) k
theorem by8_inj {x y : Int32} (hx : ¬ x < 0 ∧ ¬ (255 : Int32) < x) (hy : ¬ y < 0 ∧ ¬ (255 : Int32) < y) : by8 x = by8 y ↔ x = y := by
  have t : ∀ k : Fin 256, by8 (Int32.ofNat k.val) &&& 255 = Int32.ofNat k.val := by decide +kernel
  constructor
  · intro q
    obtain ⟨i, hi, rfl⟩ := ch_cases hx
    obtain ⟨j, hj, rfl⟩ := ch_cases hy
    rw [← t ⟨i, hi⟩, ← t ⟨j, hj⟩]
    show by8 (Int32.ofNat i) &&& 255 = by8 (Int32.ofNat j) &&& 255
    rw [q]
  · rintro rfl; rfl
theorem getD_ch {cs : List Int32} (h : ∀ c ∈ cs, ¬ c < 0 ∧ ¬ (255 : Int32) < c) {i : Nat} (hi : i < cs.length) : ¬ cs.getD i 0 < 0 ∧ ¬ (255 : Int32) < cs.getD i 0 := by
  rw [List.getD_eq_getElem?_getD, List.getElem?_eq_getElem hi]
  exact h _ (List.getElem_mem _)
/-- a boolean answer -/
def Bo (P : Prop) (z : Int32) : Prop := (z = 1 ∧ P) ∨ (z = 0 ∧ ¬ P)
theorem Bo.yes {P : Prop} {z : Int32} (B : Bo P z) (q : ¬ z = 0) : P := B.elim (fun u => u.2) (fun u => absurd u.1 q)
theorem Bo.no {P : Prop} {z : Int32} (B : Bo P z) (q : z = 0) : ¬ P := B.elim (fun u => absurd (u.1.symm.trans q) (by decide)) (fun u => u.2)
theorem Bo.tt {P : Prop} (q : P) : Bo P 1 := Or.inl ⟨rfl, q⟩
theorem Bo.ff {P : Prop} (q : ¬ P) : Bo P 0 := Or.inr ⟨rfl, q⟩
theorem Bo.one {P : Prop} {z : Int32} (B : Bo P z) (q : P) : z = 1 := B.elim (fun u => u.1) (fun u => absurd q u.2)
theorem Bo.zero {P : Prop} {z : Int32} (B : Bo P z) (q : ¬ P) : z = 0 := B.elim (fun u => absurd u.2 q) (fun u => u.1)
theorem Bo.iff {P Q : Prop} {z : Int32} (B : Bo P z) (q : P ↔ Q) : Bo Q z := B.elim (fun u => Or.inl ⟨u.1, q.mp u.2⟩) (fun u => Or.inr ⟨u.1, fun w => u.2 (q.mpr w)⟩)
theorem Bo.same {P : Prop} {z z' : Int32} (B : Bo P z) (B' : Bo P z') : z = z' := by
  rcases B with ⟨rfl, q⟩ | ⟨rfl, q⟩
  · exact (B'.one q).symm
  · exact (B'.zero q).symm
theorem Bo.nar {P : Prop} {z : Int32} (B : Bo P z) : narrow .boolean (.int z) = .int z := by
  rcases B with ⟨rfl, -⟩ | ⟨rfl, -⟩ <;> rfl
theorem add_nat (a b : Nat) : Int32.ofNat a + Int32.ofNat b = Int32.ofNat (a + b) := (Int32.ofNat_add a b).symm
theorem sub_int {a b : Nat} (ha : a < 2 ^ 31) (hb : b < 2 ^ 31) : (Int32.ofNat a - Int32.ofNat b).toInt = (a : Int) - b := by
  rw [Int32.toInt_sub, toInt_nat ha, toInt_nat hb]
  exact Int.bmod_eq_of_le (by omega) (by omega)
theorem sub_nat {a b : Nat} (ha : a < 2 ^ 31) (hb : b ≤ a) : Int32.ofNat a - Int32.ofNat b = Int32.ofNat (a - b) := by
  rw [← Int32.toInt_inj, sub_int ha (by omega), toInt_nat (by omega)]; omega
/-- ds stands in cs at k -/
def Sw (cs : List Int32) (k : Nat) (ds : List Int32) : Prop := k + ds.length ≤ cs.length ∧ ∀ i, i < ds.length → cs.getD (k + i) 0 = ds.getD i 0
theorem BArr.of_new {a : Addr} {ka : ClassId} {z : Int32} (A : Arv Z h a ka .byte z [] (.int 0)) {cs : List Int32} {k : Nat} (hc : cs = List.replicate k 0) (hz : z = Int32.ofNat k) : BArr Z h a ka cs := by
  subst hc hz
  unfold BArr
  rw [List.length_replicate, List.map_replicate, List.map_replicate]
  exact Arv.pad A (fun i => by simpa using pad_rep [] (.int 0) k i)
theorem BArr.lt {a : Addr} {ka : ClassId} {cs : List Int32} (A : BArr Z h a ka cs) : a < h.size := Arv.lt A
theorem BArr.ext {a : Addr} {ka : ClassId} {cs : List Int32} (A : BArr Z h a ka cs) (E : Ext h h') : BArr Z h' a ka cs := Arv.ext A E
theorem BArr.keep {a : Addr} {ka : ClassId} {cs : List Int32} {ws : List Addr} (A : BArr Z h a ka cs) (K : Keep h h' ws) (q : a ∉ ws) : BArr Z h' a ka cs := Arv.keep A K q
theorem by8_nar (x : Int32) : nar .byte (x.toInt8.toInt32) = by8 x := by simp [nar, by8]
/-- bastore into a byte[] of the walk's own -/
theorem Go.bastore (W : Wk nw EL n0 Z a0 own nm cd ml ret p l e R s m args below meth c T h xs cells slots) {a : Addr} {ka : ClassId} {cs : List Int32} {j x x' : Int32} (i : Nat) (d : Dec cd pc .bastore 1 n) (A : BArr Z h a ka cs) (ha : a ∈ xs) (hj : j = Int32.ofNat i) (hi : i < cs.length) (hlen : cs.length < 2 ^ 31) (hx' : nar .byte x = by8 x')
    (k : ∀ T' h', Wk nw EL n0 Z a0 own nm cd ml ret p l e R s m args below meth c T' h' xs cells slots → Keep h h' [a] → BArr Z h' a ka (cs.set i x') → Go p e below F T' (mkF m n L r)) : Go p e below F T (mkF m pc L (.int x :: .int j :: .ref a :: r)) := by
  obtain ⟨vm0, k0, locs, X, eT, hS, hk, hn, hZ, ho, hE, hC, hF, hO, hxs, hx, hby, rest⟩ := W
  obtain ⟨d, rfl⟩ := d
  subst hj
  obtain ⟨cl, A1, q1, S1, M1, H1, U1⟩ := id A
  have hin := inb_of S1 (in_of rfl hi hlen)
  obtain ⟨T', h', X', e', Wr', st⟩ := stB X hx hZ eT A1 hin (g := mkF m pc L (.int x :: .int (Int32.ofNat i) :: .ref a :: r)) rfl rfl (hb hby d)
  have q := hxs a ha
  have C1 := CHr.wr Wr' q.2.2 hC.1
  have sz : h'.size = h.size := Wr'.size
  have A2 : BArr Z h' a ka (cs.set i x') := by
    have B := Arv.set A1 q1 S1 M1 H1 U1 (fits_nar_byte x) Wr' i (clamp_nat (by omega)) (by simpa using hi)
    unfold BArr
    rw [List.length_set, List.map_set, List.map_set]
    rw [show x.toInt8.toInt32 = x'.toInt8.toInt32 from hx'] at B
    exact B
  exact Go.st st (k T' h' ⟨vm0, k0, _, X', e', hS, by rw [sz]; exact hk, hn, hZ, ho, hE, hC.trans C1, Fr.snoc X' hF q.1, hO.wr Wr' q.1, fun x hm => ⟨(hxs x hm).1, by rw [sz]; exact (hxs x hm).2.1, C1.safe (hxs x hm).2.1 (hxs x hm).2.2⟩, hx, hby, rest⟩ (Keep.of_wr Wr') A2)
theorem getD_take (cs : List Int32) (n i : Nat) : (cs.take n).getD i 0 = if i < n then cs.getD i 0 else 0 := by
  simp only [List.getD_eq_getElem?_getD, List.getElem?_take]
  split <;> rfl
theorem getD_set (cs : List Int32) (i j : Nat) (x : Int32) (hi : i < cs.length) : (cs.set i x).getD j 0 = if i = j then x else cs.getD j 0 := by
  simp only [List.getD_eq_getElem?_getD, List.getElem?_set]
  by_cases q : i = j
  · subst q; rw [if_pos rfl]; simp [hi]
  · rw [if_neg q]; simp [q]
theorem take_ch {cs : List Int32} (h : ∀ c ∈ cs, ¬ c < 0 ∧ ¬ (255 : Int32) < c) (n : Nat) : ∀ c ∈ cs.take n, ¬ c < 0 ∧ ¬ (255 : Int32) < c := fun c q => h c (List.mem_of_mem_take q)
end Jdk
section ObjArr
variable {nw : Prop} {EL : List (String × Nat)} {n0 : Nat} {Z : State} {a0 : Array Value} {own nm : String} {cd : ByteArray} {ml : Nat} {ret : Option FieldType} {p : Program} {l : Launch} {e : Env} {R : Room} {s : State} {m : MethodId} {args : Array Value} {below : List Frame} {meth : Method} {c : Code} {T : State} {h h' : Heap} {xs : List Addr} {cells slots : Nat}
variable {F : State → Prop} {pc n : Nat} {L : Array Slot} {r : List Value}
/-- an array of references, its elements -/
def OAr (Z : State) (h : Heap) (a : Addr) (C ad : String) (vs : List Value) : Prop := ∃ cl : Cell, Arr Z h a cl (.object C) ∧ Exa Z h a ad ∧ cl.slots = vs.toArray ∧ ∀ v ∈ vs, v.isRef = true
theorem OAr.exa {a : Addr} {C ad : String} {vs : List Value} (O : OAr Z h a C ad vs) : Exa Z h a ad := by obtain ⟨_, -, E, -⟩ := O; exact E
theorem OAr.lt {a : Addr} {C ad : String} {vs : List Value} (O : OAr Z h a C ad vs) : a < h.size := O.exa.lt
theorem OAr.ext {a : Addr} {C ad : String} {vs : List Value} (O : OAr Z h a C ad vs) (E : Ext h h') : OAr Z h' a C ad vs := by obtain ⟨cl, A, X, S⟩ := O; exact ⟨cl, A.ext E, X.ext E, S⟩
theorem OAr.keep {a : Addr} {C ad : String} {vs : List Value} {ws : List Addr} (O : OAr Z h a C ad vs) (K : Keep h h' ws) (q : a ∉ ws) : OAr Z h' a C ad vs := by obtain ⟨cl, A, X, S⟩ := O; exact ⟨cl, ⟨K.2.1 a cl A.1 q, A.2⟩, X.keep K, S⟩
theorem fits_ref {v : Value} {C : String} (h : v.isRef = true) : fits (.object C) v = true := by cases v <;> first | rfl | cases h
theorem Go.cloneN (W : Wk nw EL n0 Z a0 own nm cd ml ret p l e R s m args below meth c T h xs cells slots) {C ad : String} {vs : List Value} {ix wt cells' slots' : Nat} {b : Addr} (d : Dec cd pc (.invokevirtual ix) 3 n)
    (w1 : (Cond.methodLink own ix ⟨ad, "clone", "()Ljava/lang/Object;"⟩).before a0 Z = true) (w2 : (Cond.sameMethod ad "java/lang/Object" "clone" "()Ljava/lang/Object;").before a0 Z = true) (w3 : (Cond.native ⟨"java/lang/Object", "clone", "()Ljava/lang/Object;"⟩).before a0 Z = true)
    (w4 : (Cond.instanceMethod ⟨"java/lang/Object", "clone", "()Ljava/lang/Object;"⟩).before a0 Z = true) (w5 : (Cond.selects ad ⟨ad, "clone", "()Ljava/lang/Object;"⟩ ⟨"java/lang/Object", "clone", "()Ljava/lang/Object;"⟩).before a0 Z = true) (w6 : (Cond.castable ad "java/lang/Cloneable").before a0 Z = true)
    (O : OAr Z h b C ad vs) (hsz : L.size = ml) (hf : 1 ≤ R.frames) (hw : (r.map fun v => v.category).sum ≤ wt) (hl : wt + 14 ≤ R.locals) (hc : cells + 1 = cells') (hs : slots + vs.length = slots') (hc' : cells' ≤ R.cells) (hs' : slots' ≤ R.slots)
    (k : ∀ T' h' a, a = h.size → Wk nw EL n0 Z a0 own nm cd ml ret p l e R s m args below meth c T' h' (a :: xs) cells' slots' → Ext h h' → OAr Z h' a C ad vs → Go p e below F T' (mkF m n L (.ref a :: r))) : Go p e below F T (mkF m pc L (.ref b :: r)) := by
  obtain ⟨vm0, k0, locs, X, eT, hS, hk, hn, hZ, ho, hE, hC, hF, hO, hxs, hx, hby, hml, rest⟩ := W
  obtain ⟨d, rfl⟩ := d
  subst hc hs
  obtain ⟨cl, A, A2, S, hv⟩ := O
  obtain ⟨T', h', X', e', E, B, B2, st⟩ := cloneA X hx hZ ho w1 w2 w3 w4 w5 w6 eT A A2 (fitC_of A fun i hi v hq => fits_ref (hv v (by rw [S] at hq; exact List.mem_of_getElem? (by simpa using hq)))) (g := mkF m pc L (.ref b :: r)) rfl (hsz.trans hml.symm) rfl (hb hby d) hf (W := wt) (cap := vs.length) (by show 2 * 0 + _ ≤ _; omega) hl (by rw [S]; simp) hc' hs'
  have C1 := CHr.ext E hC.1
  refine Go.st st (k T' h' h.size rfl ⟨vm0, k0, locs, X', e', hS, Nat.le_trans hk E.1, hn, hZ, ho, hE, hC.trans C1, hF, hO.ext E, fun x hm => ?_, hx, hby, hml, rest⟩ E ⟨_, B, B2, S, hv⟩)
  rcases List.mem_cons.mp hm with rfl | hm
  · exact ⟨old_le hO, B.lt, Safe.ext E hC.1 (Safe.new (Nat.le_refl _))⟩
  · exact ⟨(hxs x hm).1, Nat.lt_of_lt_of_le (hxs x hm).2.1 E.1, C1.safe (hxs x hm).2.1 (hxs x hm).2.2⟩
theorem Go.alenN (W : Wk nw EL n0 Z a0 own nm cd ml ret p l e R s m args below meth c T h xs cells slots) {a : Addr} {C ad : String} {vs : List Value} {z : Int32} (d : Dec cd pc .arraylength 1 n) (O : OAr Z h a C ad vs) (hz : z = Int32.ofNat vs.length)
    (k : Go p e below F T (mkF m n L (.int z :: r))) : Go p e below F T (mkF m pc L (.ref a :: r)) := by
  obtain ⟨vm0, k0, locs, X, eT, hS, hk, hn, hZ, ho, hE, hC, hF, hO, hxs, hx, hby, rest⟩ := W
  obtain ⟨d, rfl⟩ := d
  obtain ⟨cl, A, A2, S, hv⟩ := O
  subst hz
  exact Go.st (fun t st => X.arraylength hx (by rw [eT]; exact A.1) (State.isArrayOf_alike hZ.alike A.2.1) (g := mkF m pc L (.ref a :: r)) rfl rfl (hb hby d) t (by rw [S]; simpa using st)) k
theorem Go.aaload (W : Wk nw EL n0 Z a0 own nm cd ml ret p l e R s m args below meth c T h xs cells slots) {a : Addr} {C ad : String} {vs : List Value} {j : Int32} {v : Value} (i : Nat) (d : Dec cd pc .aaload 1 n) (O : OAr Z h a C ad vs) (hj : j = Int32.ofNat i) (hi : i < 2 ^ 31) (hv : vs[i]? = some v)
    (k : Go p e below F T (mkF m n L (v :: r))) : Go p e below F T (mkF m pc L (.int j :: .ref a :: r)) := by
  obtain ⟨vm0, k0, locs, X, eT, hS, hk, hn, hZ, ho, hE, hC, hF, hO, hxs, hx, hby, rest⟩ := W
  obtain ⟨d, rfl⟩ := d
  subst hj
  obtain ⟨cl, A, A2, S, hr⟩ := O
  have hlt : i < vs.length := (List.getElem?_eq_some_iff.mp hv).1
  exact Go.st (fun t st => X.aaload hx (by rw [eT]; exact A.1) (State.isArrayOf_alike hZ.alike A.2.1) rfl A.2.2 (by rw [clamp_nat hi, S]; have := (in_of (i := i) (k := i + 1) rfl (Nat.lt_succ_self i)); rintro (q | q); rw [Int32.lt_iff_toInt_lt, toInt_nat hi] at q; have e0 : (0 : Int32).toInt = 0 := rfl; omega; simp at q; omega) (by rw [clamp_nat hi, S]; simpa using hv) (g := mkF m pc L (.int (Int32.ofNat i) :: .ref a :: r)) rfl rfl (hb hby d) t st) k
/-- a String of the start, read off the sheet's words -/
theorem eq_int_of {t : Term} {k : Int32} (h : (Cond.eq t (Term.int k)).value args Z none Z [] = some true) : t.eval args Z none [] Z = some (.int k) := by
  obtain ⟨x, y, hx1, hy1, -⟩ := cmp_v (Or.inl h)
  have hy2 : (Term.int k).eval args Z none [] Z = some (.int k) := rfl
  rw [hy2] at hy1; cases hy1
  cases x with
  | int i => rw [hx1, gotT (Cond.eq_ints hx1 hy2) h]
  | _ => simp [Cond.value, hx1, hy2] at h
theorem elem_slot {t : Term} {b : Addr} {cl : Cell} {i : Nat} {v : Value} (hb : t.eval args Z none [] Z = some (.ref b)) (hc : Z.heap[b]? = some cl) (hi : i < 2 ^ 31) (h : (Term.elem t (Term.int (Int32.ofNat i))).eval args Z none [] Z = some v) : cl.slots[i]? = some v := by
  have q := (elem_in h hb (Term.int_eval (Int32.ofNat i)) hc).2
  rwa [clamp_nat hi] at q
theorem str_of {t : Term} {cs : List Int32} {nn : Int32} (hx : (Cond.exactly t "java/lang/String").value args Z none Z [] = some true) (hc : (Cond.eq (Term.field t "java/lang/String" "coder" "B") (Term.int 0)).value args Z none Z [] = some true)
    (ha : (Cond.arrayOf (Term.field t "java/lang/String" "value" "[B") .byte).value args Z none Z [] = some true) (hl : (Cond.eq (Term.length (Term.field t "java/lang/String" "value" "[B")) (Term.int nn)).value args Z none Z [] = some true) (hnn : nn = Int32.ofNat cs.length) (h4 : cs.length ≤ 4000) (hp : ∀ c ∈ cs, ¬ c < 0 ∧ ¬ (255 : Int32) < c)
    (he : ∀ i, i < cs.length → (Cond.eq (Term.elem (Term.field t "java/lang/String" "value" "[B") (Term.int (Int32.ofNat i))) (Term.int (by8 (cs.getD i 0)))).value args Z none Z [] = some true) :
    ∃ r, t.eval args Z none [] Z = some (.ref r) ∧ Str Z Z.heap r cs := by
  subst hnn
  obtain ⟨r, er⟩ := exa_v hx
  have ec := eq_int_of hc
  rw [fld_at er] at ec
  obtain ⟨b, eb⟩ := arr_v ha
  obtain ⟨cl, A⟩ := Arr.start eb ha
  have el := eq_int_of hl
  obtain ⟨b', cl', eb', ec', hsz, ev⟩ := Jvm.Lib.length_spec el
  have eb2 := eb
  rw [fld_at er] at eb2
  cases eb.symm.trans eb'
  have hcl : cl' = cl := by
    have := A.1
    simp only [State.arrayAt?, Option.bind_eq_bind, Option.bind_eq_some_iff] at ec'
    obtain ⟨c1, h1, k1, -, h2⟩ := ec'
    rw [this] at h1
    cases h1
    split at h2
    · cases h2
    · split at h2
      · exact (Option.some.inj h2).symm
      · cases h2
  subst hcl
  have hsz2 : cl'.slots.size = cs.length := by
    have q := Value.int.inj ev
    have : (Int32.ofNat cs.length) = Int32.ofNat cl'.slots.size := q
    exact ((eq_nat (by omega) hsz).mp this).symm
  have hat : ∀ i, i < cs.length → cl'.slots[i]? = some (.int (by8 (cs.getD i 0))) := fun i hi => elem_slot eb A.1 (by omega) (eq_int_of (he i hi))
  have hgd : ∀ i, i < cs.length → ((cs.map fun c => c.toInt8.toInt32).map Value.int).getD i (.int 0) = .int (by8 (cs.getD i 0)) := fun i hi => by
    simp only [List.getD_eq_getElem?_getD, List.getElem?_map, by8]; rw [List.getElem?_eq_getElem hi]; rfl
  refine ⟨r, er, Exa.start er hx, Fld.start ec, ⟨b, cl'.cls, Fld.start eb2, cl', A, rfl, by rw [clamp_nat (by omega)]; exact hsz2, ?_, fun i hi => ?_, fun i hi => ?_⟩, hp, h4⟩
  · have := (in_of (i := 0) (k := cs.length + 1) rfl (by omega) (by omega))
    rw [Int32.lt_iff_toInt_lt, toInt_nat (by omega)]; show ¬ ((cs.length : Int) < 0); omega
  · rw [hgd i (by omega)]; exact hat i (by omega)
  · rw [hgd i (by omega)]; exact fits_nar_byte _
end ObjArr
section Hand
variable {nw : Prop} {EL : List (String × Nat)} {n0 : Nat} {Z : State} {a0 : Array Value} {own nm : String} {cd : ByteArray} {ml : Nat} {ret : Option FieldType} {p : Program} {l : Launch} {e : Env} {R : Room} {s : State} {m : MethodId} {args : Array Value} {below : List Frame} {meth : Method} {c : Code} {T : State} {h h' : Heap} {xs : List Addr} {cells slots : Nat}
variable {F : State → Prop} {pc n : Nat} {L : Array Slot} {r : List Value}
/-- a method with an exception table whose walk throws nothing and leaves the heap: narrow -/
theorem backH {y : MethodName} {bytes : ByteArray} {maxL len wt : Nat} {rt : Option FieldType} {hs : List (Nat × Nat × Nat × Nat)} {rm : Room} {as' : Array Value} {Q : Value → Prop} {L0 : Array Slot} (hpn : plainFor y = true) (hnw : nw) (hel : EL = []) (hO : Old Z n0 h) (ef : ∀ m, entryFrame m as' maxL = mkF m 0 L0 [])
    (hB : ∀ p e s m below meth c T, Wk nw EL n0 Z a0 y.cls y.name bytes maxL rt p l e rm s m as' below meth c T h [] 0 0 → Go p e below (Endp nw EL n0 Z below s rm.cells rm.slots (RV fun w h' => Q w ∧ h = h')) T (mkF m 0 L0 []))
    (hZ : Z.Warmed39 s.vm) (wc : (Cond.codeWith y bytes maxL rt hs).before a0 Z = true) (wz : (Cond.initialized y.cls).before a0 Z = true) (hf : rm.frames + 1 ≤ R.frames) (hl : wt + (maxL + 11) + rm.locals ≤ R.locals) :
    Back l R p e below s args y len wt (fun A a => a = as' ∧ A.U.heap = h ∧ A.cells + rm.cells ≤ R.cells ∧ A.slots + rm.slots ≤ R.slots)
      (fun A _ v B => ∃ Lc, ((∃ w, v = some w ∧ Q w) ∧ B.U.heap = h ∧ Fr n0 Lc) ∧ B.locs = A.locs ++ Lc ∧ B.cells = A.cells + rm.cells ∧ B.slots = A.slots + rm.slots) := by
  subst hel
  refine backOfWith (Q := fun v h' Lc => (∃ w, v = some w ∧ Q w) ∧ h' = h ∧ Fr n0 Lc) (MetFree.of_bodySF hpn hisWith ?_) hZ wc wz hf hl
  intro p e s m args below meth c s₁ Bd hml hP hK
  obtain ⟨rfl, hZ, hh⟩ := hP
  have X0 : Stand p l e rm s m args below meth c s₁ [] 0 0 := Stand.of_body Bd
  have e0 : s₁.heap = h := by rw [← hh, Bd.state]; rfl
  have W : Wk nw [] n0 Z a0 y.cls y.name bytes maxL rt p l e rm s m args below meth c s₁ h [] 0 0 :=
    ⟨s.vm, 0, [], X0, e0, (State.WarmedH.refl s).since 0, Nat.zero_le _, fun _ => State.WarmedH.refl s, hZ, findClass_of_methodNamed Bd.named, EW.nil, by rw [hh]; exact CHr.refl (fun q hq => nomatch hq), Fr.nil n0, hO, (fun x hm => nomatch hm), Bd.exec, Bd.bytes, hml, Bd.returns, Bd.notSynchronized, (name_of_methodNamed Bd.named Bd.method).1⟩
  obtain ⟨t, st, hrun, v, Lc, hend, ⟨w, rfl, q0, q1⟩, q2, q3, q4, q5, q6⟩ := hB p e s m below meth c s₁ W
  exact ⟨t, .returned (some w), castTop (ef m) st, hrun, hend, some w, Lc, rfl, ⟨⟨w, rfl, q0⟩, q1.symm, q2⟩, ⟨q5.1, q6 hnw, q5.2.2.2⟩⟩
/-- invokestatic of such a method -/
theorem Go.invsH (W : Wk nw EL n0 Z a0 own nm cd ml ret p l e R s m args below meth c T h xs cells slots) {y : MethodName} {bytes : ByteArray} {maxL ix wt kc ks cells' slots' : Nat} {rt : Option FieldType} {hd : List (Nat × Nat × Nat × Nat)} {argsL rest st0 : List Value} {Q : Value → Prop} {ps : List FieldType} {pr : Option FieldType}
    (hB : ∀ vm0, Z.Warmed39 vm0 → Back l R p e below (s.setVm vm0) args y 3 wt (fun A a => a = argsL.toArray ∧ A.U.heap = h ∧ A.cells + kc ≤ R.cells ∧ A.slots + ks ≤ R.slots) (fun A _ v B => ∃ Lc, ((∃ w, v = some w ∧ Q w) ∧ B.U.heap = h ∧ Fr n0 Lc) ∧ B.locs = A.locs ++ Lc ∧ B.cells = A.cells + kc ∧ B.slots = A.slots + ks)) (d : Dec cd pc (.invokestatic ix) 3 n)
    (w1 : (Cond.methodLink own ix y).before a0 Z = true) (w2 : (Cond.static y).before a0 Z = true) (w3 : (Cond.initialized y.cls).before a0 Z = true) (w4 : (Cond.codeWith y bytes maxL rt hd).before a0 Z = true) (hy : y.cls ≠ "java/lang/invoke/MethodHandle" ∧ y.cls ≠ "java/lang/invoke/VarHandle")
    (hpd : parseMethodDescriptor y.desc = some ⟨ps, pr⟩) (hlen : argsL.length = ps.length) (hsz : L.size = ml) (hst : st0 = argsL.reverse ++ rest) (hw : (rest.map fun v => v.category).sum ≤ wt) (hc : cells + kc = cells') (hs : slots + ks = slots') (hc' : cells' ≤ R.cells) (hs' : slots' ≤ R.slots)
    (k : ∀ T' v, Wk nw EL n0 Z a0 own nm cd ml ret p l e R s m args below meth c T' h xs cells' slots' → Q v → Go p e below F T' (mkF m n L (v :: rest))) : Go p e below F T (mkF m pc L st0) := by
  obtain ⟨vm0, k0, locs, X, eT, hS, hk, hn, hZ, ho, hE, hC, hF, hO, hxs, hx, hby, hml, rst⟩ := W
  obtain ⟨d, rfl⟩ := d
  subst hc hs hst
  obtain ⟨v, vm₁, B, hW1, X', ⟨Lc, ⟨⟨w, rfl, hq⟩, hh, hF'⟩, r1, r2, r3⟩, st⟩ := callSH X hx ho (mv hZ w1) (mv hZ w2) (mv hZ w3) (mv hZ w4) hy (hB vm0 hZ) (g := mkF m pc L (argsL.reverse ++ rest)) rfl (hsz.trans hml.symm) (argsL := argsL) (rest := rest) (lenOf hpd hlen) rfl (by show 2 * 0 + _ ≤ _; omega) (hb hby d) (fun _ _ => ⟨rfl, eT, hc', hs'⟩)
  have K : Keep h B.U.heap [] := by rw [hh]; exact Keep.refl h []
  have C1 : CHr Z EL vm0 h vm0 B.U.heap := CHr.keep K (fun x hm => nomatch hm) hC.1
  have W' := Wk.after X eT hS hk hn hZ ho hE hC hF hO hxs ⟨hx, hby, hml, rst⟩ (X'.retabled X'.warmed.wide) (X'.warmed.since _) (by rw [eT]; exact K.1) r1 r2 r3 hF' (hO.keep K (fun x hm => nomatch hm)) (C1.trans (CHv.at X' hZ hE C1.1)) (fun _ => X'.warmed)
  rw [hh] at W'
  exact Go.st st (k B.U w W' hq)
/-- a class one of whose methods is selected is no interface -/
theorem notFace_like {args : Array Value} {s : State} {D : String} {u y : MethodName} (hsel : (Cond.selects D u u).before args s = true) (hu : u.cls = y.cls) : NotFace s y := fun r0 h0 => by
  obtain ⟨c2, r2, m2, q1, q2, q3, q4, kP, hkP, hkPi⟩ := Cond.selects_spec hsel
  have e1 := findClass_of_methodNamed h0
  have e2 := findClass_of_methodNamed q3
  rw [hu] at e2
  have e3 : m2.cls = r0.cls := Option.some.inj (e2.symm.trans e1)
  exact ⟨kP, e3 ▸ hkP, hkPi⟩
/-- invokevirtual where another class's method is selected -/
theorem Go.invvS1 (W : Wk nw EL n0 Z a0 own nm cd ml ret p l e R s m args below meth c T h xs cells slots) {y z u : MethodName} {C D : String} {ix wt kc ks cells' slots' : Nat} {argsL rest st0 : List Value} {b : Addr} {Q : Value → Heap → Prop} {ps : List FieldType} {pr : Option FieldType} (w0 : (Cond.selects D u u).before a0 Z = true) (hu : u.cls = y.cls) (hK : Call nw EL n0 Z xs l R p e below s args z 3 wt (.ref b :: argsL).toArray h kc ks (RV Q)) (d : Dec cd pc (.invokevirtual ix) 3 n)
    (w1 : (Cond.methodLink own ix y).before a0 Z = true) (w2 : (Cond.declares y).before a0 Z = true) (w3 : (Cond.selects C y z).before a0 Z = true) (w4 : (Cond.instanceMethod z).before a0 Z = true) (hy : y.cls ≠ "java/lang/invoke/MethodHandle" ∧ y.cls ≠ "java/lang/invoke/VarHandle") (E : Exa Z h b C)
    (hpd : parseMethodDescriptor y.desc = some ⟨ps, pr⟩) (hlen : argsL.length = ps.length) (hsz : L.size = ml) (hst : st0 = argsL.reverse ++ .ref b :: rest) (hw : (rest.map fun v => v.category).sum ≤ wt) (hc : cells + kc = cells') (hs : slots + ks = slots') (hc' : cells' ≤ R.cells) (hs' : slots' ≤ R.slots)
    (k : ∀ T' h' v, Wk nw EL n0 Z a0 own nm cd ml ret p l e R s m args below meth c T' h' xs cells' slots' → h.size ≤ h'.size → Q v h' → Go p e below F T' (mkF m n L (v :: rest))) : Go p e below F T (mkF m pc L st0) :=
  Go.invv W hK d w1 w2 w3 w4 hy E hpd hlen hsz hst hw hc hs hc' hs' (fun _ hZ => notFace_like (args := #[]) (mvT hZ w0) hu) (fun T' h' v W' g q => by obtain ⟨w, rfl, q⟩ := q; exact k T' h' w W' g q)
/-- baload of a byte[] of which one slot is known -/
theorem Go.baloadAt (W : Wk nw EL n0 Z a0 own nm cd ml ret p l e R s m args below meth c T h xs cells slots) {a : Addr} {cl : Cell} {j : Int32} {v : Value} (i : Nat) (d : Dec cd pc .baload 1 n) (A : Arr Z h a cl .byte) (hj : j = Int32.ofNat i) (hi : i < 2 ^ 31) (hv : cl.slots[i]? = some v)
    (k : Go p e below F T (mkF m n L (v :: r))) : Go p e below F T (mkF m pc L (.int j :: .ref a :: r)) := by
  obtain ⟨vm0, k0, locs, X, eT, hS, hk, hn, hZ, ho, hE, hC, hF, hO, hxs, hx, hby, rest⟩ := W
  obtain ⟨d, rfl⟩ := d
  subst hj
  have hlt : i < cl.slots.size := (Array.getElem?_eq_some_iff.mp hv).1
  exact Go.st (fun t st => X.baloadBytes hx (by rw [eT]; exact A.1) (State.isArrayOf_alike hZ.alike A.2.1) A.2.2 (by rw [clamp_nat hi]; rintro (q | q); rw [Int32.lt_iff_toInt_lt, toInt_nat hi] at q; have e0 : (0 : Int32).toInt = 0 := rfl; omega; omega) (by rw [clamp_nat hi]; exact hv) (g := mkF m pc L (.int (Int32.ofNat i) :: .ref a :: r)) rfl rfl (hb hby d) t st) k
theorem div_nat {a b : Nat} (ha : a < 2 ^ 31) (hb : b < 2 ^ 31) (h0 : 0 < b) : Int32.ofNat a / Int32.ofNat b = Int32.ofNat (a / b) := by
  have hle : a / b ≤ a := Nat.div_le_self a b
  rw [← Int32.toInt_inj, Int32.toInt_div, toInt_nat ha, toInt_nat hb, toInt_nat (by omega)]
  rw [show ((a : Int).tdiv (b : Int)) = ((a / b : Nat) : Int) from rfl]
  generalize a / b = q at hle
  exact Int.bmod_eq_of_le (by omega) (by omega)
theorem neg_int {a : Nat} (ha : a < 2 ^ 31) : (-(Int32.ofNat a)).toInt = -(a : Int) := by
  rw [Int32.toInt_neg, toInt_nat ha]
  exact Int.bmod_eq_of_le (by omega) (by omega)
theorem step10 (a d : Nat) : -(Int32.ofNat a) * 10 - Int32.ofNat d = -(Int32.ofNat (10 * a + d)) := by
  rw [Int32.ofNat_add, Int32.ofNat_mul, show Int32.ofNat 10 = 10 from rfl]
  grind
end Hand
section Sb
variable {nw : Prop} {EL : List (String × Nat)} {n0 : Nat} {Z : State} {a0 : Array Value} {own nm : String} {cd : ByteArray} {ml : Nat} {ret : Option FieldType} {p : Program} {l : Launch} {e : Env} {R : Room} {s : State} {m : MethodId} {args : Array Value} {below : List Frame} {meth : Method} {c : Code} {T : State} {h h' : Heap} {xs : List Addr} {cells slots : Nat}
variable {F : State → Prop} {pc n : Nat} {L : Array Slot} {r : List Value}
/-- the word sameMethod, of a class that declares the method and is no interface -/
theorem same_of {D : String} {u y : MethodName} (w0 : (Cond.selects D u u).before a0 Z = true) (hu : u.cls = y.cls) (w : (Cond.instanceMethod y).before a0 Z = true) (hy : y.cls ≠ "java/lang/invoke/MethodHandle" ∧ y.cls ≠ "java/lang/invoke/VarHandle") : (Cond.sameMethod y.cls y.cls y.name y.desc).before a0 Z = true := by
  obtain ⟨mk, methM, hn, hm, -, -⟩ := Cond.instanceMethod_spec w
  have hf := State.methodFound?_of_named hn hy
  obtain ⟨k, hk, hi⟩ := notFace_like w0 hu mk hn
  have hc := findClass_of_methodNamed hn
  simp only [Cond.before, Cond.holds, Cond.value, hc, hf, hn, hk]
  simp [hi]
/-- the word declares, of an instance method whose code is known -/
theorem decl_of {y : MethodName} {bytes : ByteArray} {maxL : Nat} {rt : Option FieldType} (w : (Cond.instanceMethod y).before a0 Z = true) (wc : (Cond.code y bytes maxL rt).before a0 Z = true) : (Cond.declares y).before a0 Z = true := by
  obtain ⟨mk, methM, hn, hm, hst, -⟩ := Cond.instanceMethod_spec w
  obtain ⟨m2, c2, q1, -, -, -, -, -, -, hsig⟩ := Cond.code_spec hn wc
  cases hm.symm.trans q1
  simp only [Cond.before, Cond.holds, Cond.value, hn, hm, Option.bind_some, Option.map_some]
  simp [hst, hsig]
theorem Go.dup_x1 (C : Cx p below m c cd T) {x y : Value} (d : Dec cd pc .dup_x1 1 n) (hx : x.category = 1) (hy : y.category = 1)
    (k : Go p e below F T (mkF m n L (x :: y :: x :: r))) : Go p e below F T (mkF m pc L (x :: y :: r)) := by
  obtain ⟨t, st, f⟩ := k; obtain ⟨d, rfl⟩ := d
  exact ⟨t, XT.dupX1 C.1 C.2.1 rfl (hb C.2.2 d) rfl hx hy st, f⟩
theorem Go.ishr (C : Cx p below m c cd T) {x y : Int32} (d : Dec cd pc .ishr 1 n)
    (k : Go p e below F T (mkF m n L (.int (x >>> (y &&& 31)) :: r))) : Go p e below F T (mkF m pc L (.int y :: .int x :: r)) := by
  obtain ⟨t, st, f⟩ := k; obtain ⟨d, rfl⟩ := d
  exact ⟨t, XT.ishr C.1 C.2.1 rfl (hb C.2.2 d) rfl st, f⟩
/-- invokespecial of the superclass's method, a value returned -/
theorem Go.sup1 (W : Wk nw EL n0 Z a0 own nm cd ml ret p l e R s m args below meth c T h xs cells slots) {y u : MethodName} {D K : String} {bytes : ByteArray} {maxL ix wt kc ks cells' slots' : Nat} {rt : Option FieldType} {argsL rest st0 : List Value} {b : Addr} {Q : Value → Heap → Prop} {ps : List FieldType} {pr : Option FieldType}
    (w0 : (Cond.selects D u u).before a0 Z = true) (hu : u.cls = y.cls) (hK : Call nw EL n0 Z xs l R p e below s args y 3 wt (.ref b :: argsL).toArray h kc ks (RV Q)) (d : Dec cd pc (.invokespecial ix) 3 n)
    (hy1 : y.name ≠ "<init>") (w1 : (Cond.methodLink own ix y).before a0 Z = true) (w3 : (Cond.instanceMethod y).before a0 Z = true) (w4 : (Cond.superclass own y.cls).before a0 Z = true) (wc : (Cond.code y bytes maxL rt).before a0 Z = true) (hy : y.cls ≠ "java/lang/invoke/MethodHandle" ∧ y.cls ≠ "java/lang/invoke/VarHandle") (I : Ins Z h b K true)
    (hpd : parseMethodDescriptor y.desc = some ⟨ps, pr⟩) (hlen : argsL.length = ps.length) (hsz : L.size = ml) (hst : st0 = argsL.reverse ++ .ref b :: rest) (hw : (rest.map fun v => v.category).sum ≤ wt) (hc : cells + kc = cells') (hs : slots + ks = slots') (hc' : cells' ≤ R.cells) (hs' : slots' ≤ R.slots)
    (k : ∀ T' h' v, Wk nw EL n0 Z a0 own nm cd ml ret p l e R s m args below meth c T' h' xs cells' slots' → h.size ≤ h'.size → Q v h' → Go p e below F T' (mkF m n L (v :: rest))) : Go p e below F T (mkF m pc L st0) := by
  obtain ⟨vm0, k0, locs, X, eT, hS, hk, hn, hZ, ho, hE, hC, hF, hO, hxs, hx, hby, hml, rst⟩ := W
  obtain ⟨d, rfl⟩ := d
  subst hc hs hst
  obtain ⟨v, vm₁, B, hW1, X', hS2, hg, ⟨Lc, hq, r1, r2, r3, hF', hO', hC', hn'⟩, st⟩ := superBackS X hx hZ ho w1 (same_of w0 hu w3 hy) w3 w4 hy1 (hK vm0 hZ hC.1 hO hxs) eT I (g := mkF m pc L (argsL.reverse ++ .ref b :: rest)) rfl (hsz.trans hml.symm) wc (argsL := argsL) (rest := rest) (lenOf hpd hlen) rfl (by show 2 * 0 + _ ≤ _; omega) (hb hby d) (fun _ _ => ⟨rfl, eT, hc', hs'⟩)
  obtain ⟨w, rfl, hq⟩ := hq
  exact Go.run st (k B.U B.U.heap w (Wk.after X eT hS hk hn hZ ho hE hC hF hO hxs ⟨hx, hby, hml, rst⟩ X' hS2 hg r1 r2 r3 hF' hO' hC' hn') (eT ▸ hg) hq)
/-- System.arraycopy between byte arrays, into one of the walk's own: from sp on, the target from 0 on -/
theorem Go.acopyB (W : Wk nw EL n0 Z a0 own nm cd ml ret p l e R s m args below meth c T h xs cells slots) {ix wt : Nat} {a b : Addr} {ka kb : ClassId} {cs ds : List Int32} {sp nn : Nat} (d : Dec cd pc (.invokestatic ix) 3 n) (w1 : (Cond.methodLink own ix Jvm.Stand.acN).before a0 Z = true) (w2 : (Cond.native Jvm.Stand.acN).before a0 Z = true) (w3 : (Cond.static Jvm.Stand.acN).before a0 Z = true) (w4 : (Cond.initialized "java/lang/System").before a0 Z = true)
    (A : BArr Z h a ka cs) (B : BArr Z h b kb ds) (hb' : b ∈ xs) (h1 : sp + nn ≤ cs.length) (h2 : nn = ds.length) (h3 : cs.length < 2 ^ 31) (h4 : ds.length < 2 ^ 31) (hsz : L.size = ml) (hf : 1 ≤ R.frames) (hw : (r.map fun v => v.category).sum ≤ wt) (hl : wt + (nativeFrameWords "java/lang/System" "arraycopy" 5 + 11) ≤ R.locals)
    (k : ∀ T' h', Wk nw EL n0 Z a0 own nm cd ml ret p l e R s m args below meth c T' h' xs cells slots → Keep h h' [b] → BArr Z h' b kb ((cs.drop sp).take nn) → Go p e below F T' (mkF m n L r)) : Go p e below F T (mkF m pc L (.int (Int32.ofNat nn) :: .int 0 :: .ref b :: .int (Int32.ofNat sp) :: .ref a :: r)) := by
  obtain ⟨vm0, k0, locs, X, eT, hS, hk, hn, hZ, ho, hE, hC, hF, hO, hxs, hx, hby, hml, rst⟩ := W
  obtain ⟨d, rfl⟩ := d
  have q := hxs b hb'
  have nn0 : ∀ t : Nat, t < 2 ^ 31 → ¬ Int32.ofNat t < 0 := fun t ht => by rw [Int32.lt_iff_toInt_lt, toInt_nat ht]; show ¬ ((t : Int) < 0); omega
  have cl0 : (0 : Int32).toNatClampNeg = 0 := by decide
  have hlen1 : ((cs.drop sp).take nn).length = ds.length := by rw [List.length_take, List.length_drop]; omega
  obtain ⟨T', h', Lc, X', e', N, K, B', st⟩ := cpA X hx hZ ho w1 w2 w3 w4 eT A B (Or.inl ⟨rfl, rfl⟩) (sp := Int32.ofNat sp) (dp := 0) (nn := Int32.ofNat nn) (us := ((cs.drop sp).take nn).map (fun c => Value.int c.toInt8.toInt32)) (nn0 sp (by omega)) (by decide) (nn0 nn (by omega))
    (by rw [clamp_nat (by omega), clamp_nat (by omega), clamp_nat h3]; exact h1) (by rw [cl0, clamp_nat (by omega), clamp_nat h4]; omega)
    (by
      rw [clamp_nat (by omega), clamp_nat (by omega)]
      apply List.ext_getElem?
      intro i
      by_cases hi : i < nn
      · rw [List.getElem?_map, List.getElem?_take, if_pos hi, List.getElem?_drop, List.getElem?_map, List.getElem?_range hi]
        simp only [Option.map_some, List.getD_eq_getElem?_getD, List.getElem?_map]
        rw [List.getElem?_eq_getElem (show sp + i < cs.length by omega)]
        rfl
      · rw [List.getElem?_eq_none (by rw [List.length_map, hlen1]; omega), List.getElem?_eq_none (by rw [List.length_map, List.length_range]; omega)])
    (by rw [cl0, clamp_nat (by omega), List.length_map, List.length_map]; omega) hF q.1 (g := mkF m pc L (.int (Int32.ofNat nn) :: .int 0 :: .ref b :: .int (Int32.ofNat sp) :: .ref a :: r)) rfl (hsz.trans hml.symm) rfl (hb hby d) hf (W := wt) (by show 2 * 0 + _ ≤ _; omega) hl
  have C1 : CHr Z EL vm0 h vm0 h' := CHr.keep K (fun x hm => by cases List.mem_singleton.mp hm; exact q.2.2) hC.1
  have B2 : BArr Z h' b kb ((cs.drop sp).take nn) := by
    unfold BArr
    rw [hlen1, List.map_map]
    have e0 : List.drop (0 + nn) ((ds.map fun c => c.toInt8.toInt32).map Value.int) = [] := List.drop_eq_nil_of_le (by rw [List.length_map, List.length_map]; omega)
    rw [cl0, clamp_nat (by omega), e0, List.append_nil] at B'
    simpa [h2, Function.comp_def] using B'
  exact Go.st st (k T' h' ⟨vm0, k0, _, X', e', hS, Nat.le_trans hk K.1, hn, hZ, ho, hE, hC.trans C1, N, hO.keep K (fun x hm => by cases List.mem_singleton.mp hm; exact q.1), fun x hm => ⟨(hxs x hm).1, Nat.lt_of_lt_of_le (hxs x hm).2.1 K.1, C1.safe (hxs x hm).2.1 (hxs x hm).2.2⟩, hx, hby, hml, rst⟩ K B2)
/-- a byte[] whose length is no constant's is no constant's array -/
theorem Wk.bar (W : Wk nw EL n0 Z a0 own nm cd ml ret p l e R s m args below meth c T h xs cells slots) {b : Addr} {kb : ClassId} {cs : List Int32} (A : BArr Z h b kb cs) (hx : n0 ≤ b) (hl : cs.length < 2 ^ 31)
    (hT : ∀ p ∈ EL, ∃ text : String, (Cond.stringLink p.1 p.2 text).before a0 Z = true ∧ (∀ c ∈ text.toList, c.toNat < 256) ∧ text.toList.length ≠ cs.length) : Wk nw EL n0 Z a0 own nm cd ml ret p l e R s m args below meth c T h (b :: xs) cells slots := by
  obtain ⟨vm0, k0, locs, X, eT, hS, hk, hn, hZ, ho, hE, hC, hF, hO, hxs, rest⟩ := W
  refine ⟨vm0, k0, locs, X, eT, hS, hk, hn, hZ, ho, hE, hC, hF, hO, fun y q => ?_, rest⟩
  rcases List.mem_cons.mp q with rfl | q
  · refine ⟨hx, A.lt, fun B => ?_⟩
    obtain ⟨cl, A1, -, S1, M1, -, -⟩ := A
    rw [clamp_nat hl] at S1
    obtain ⟨p, hp, u, a, hb, q, -, F, e | e⟩ := B
    · have h1 := F.ha
      rw [← e] at h1
      obtain ⟨A0, ⟨-, kA, hkA, compA, hkindA⟩, -⟩ := A1
      obtain ⟨kA', hkA', ekA⟩ := hZ.alike.2.2 _ _ hkA
      have ec : q.sC = cl := Option.some.inj ((show h[y]? = some q.sC from h1).symm.trans A0)
      obtain ⟨cS, ⟨-, -, e2⟩, ⟨kS, g1, g2, -⟩, -⟩ := F
      rw [← e2, ec] at g1
      have ek : kS = kA' := Option.some.inj ((show vm0.classes[cl.cls]? = some kS from g1).symm.trans hkA')
      rw [ek, ekA, hkindA] at g2
      cases g2
    · have h1 := F.hd
      rw [← e] at h1
      have ec : q.SA = cl := Option.some.inj ((show h[y]? = some q.SA from h1).symm.trans A1.1)
      obtain ⟨cS, -, -, -, hsl⟩ := F
      rw [ec] at hsl
      obtain ⟨text, w, ht, hne⟩ := hT p hp
      obtain ⟨c1, k1, cf, i, hc1, hk1, hcf, hpool, hu, -⟩ := hb
      have w2 : (Cond.stringLink p.1 p.2 text).before a0 (Wst Z vm0 h) = true := mvS (s := { Z with heap := h }) hZ w
      obtain ⟨k2, cf2, i2, u2, hk2, hcf2, hp2, hu2, -, htext, -⟩ := Cond.stringLink_spec (s := Wst Z vm0 h) hc1 w2
      cases hk1.symm.trans hk2
      cases hcf.symm.trans hcf2
      cases hpool.symm.trans hp2
      cases hu.symm.trans hu2
      have hlat := Jvm.ClassFile.lat_of_text htext ht
      have hs2 : (stringBytes u).size = u.size := by simp [stringBytes, hlat]
      have hsz := Jvm.ClassFile.app_eq u.toList "" text (fun z hz => by have := Array.all_eq_true_iff_forall_mem.mp hlat z (Array.mem_toList_iff.mp hz); exact of_decide_eq_true this) htext
      have hl2 : text.toList.length = u.size := by rw [hsz]; simp
      rw [hsl, hs2] at S1
      exact hne (hl2.trans S1)
  · exact hxs y q
end Sb
end Jvm.OwK
/- laws to paste: Road.backV, Road.lenW, Road.chN, Road.eqW, Road.codOf (cut by pick.py; bodies as the Statement names them) -/
namespace Jvm.Pilot.@@N@@
namespace StrChars
open Jvm Sem ClassFile Op Lib Jvm.Stand Jvm.Free.XT Jvm.Free.ALB Jvm.Free.JM Jvm.Free
open Jvm.Lib.Cold (StaticIs)
/-- a char array whose places are chars -/
def Ch (a : Addr) (A : Cell) (U : State) : Prop := Arr .char a A U ∧ Typed .char A
theorem Ch.mv {a : Addr} {A : Cell} {U U' : State} (h : Ch a A U) (hal : U.vm.Alike U'.vm) (hh : U'.heap = U.heap) : Ch a A U' := ⟨h.1.mv hal hh, h.2⟩
theorem Ch.keep {a : Addr} {A : Cell} {U U' : State} (h : Ch a A U) (hal : U.vm.Alike U'.vm) (hk : U'.heap[a]? = some A) : Ch a A U' := ⟨h.1.keep hal hk, h.2⟩
/-- what place i of a char[]'s cell holds -/
def cv (A : Cell) (i : Nat) : Int32 := match A.slots[i]? with | some (.int x) => x | _ => 0
theorem Ch.get {a : Addr} {A : Cell} {U : State} (h : Ch a A U) {i : Nat} (hi : i < A.slots.size) : A.slots[i]? = some (.int (cv A i)) := by
  have e := Array.getElem?_eq_getElem hi
  have f := h.2 i _ e
  unfold cv; rw [e]
  generalize A.slots[i] = v at f
  cases v <;> simp [fits] at f ⊢
/-- the byte that i2b leaves of a char -/
def lo8 (x : Int32) : Int32 := x.toInt8.toInt32
theorem fits_lo8 (y : Int32) : fits .byte (.int (lo8 y)) = true := by
  have h1 := y.toInt8.le_toInt
  have h2 := y.toInt8.toInt_lt
  simp only [lo8, fits, Bool.and_eq_true, decide_eq_true_eq, Int32.le_iff_toInt_le, Int8.toInt_toInt32, show (-128 : Int32).toInt = -128 from by decide, show (127 : Int32).toInt = 127 from by decide]
  omega
/-- A' is A but that each place j of lo .. hi - 1 holds f j -/
def Laid (A A' : Cell) (lo hi : Nat) (f : Nat → Value) : Prop := A'.cls = A.cls ∧ A'.vm = A.vm ∧ A'.slots.size = A.slots.size ∧ ∀ i, A'.slots[i]? = if lo ≤ i ∧ i < hi then some (f i) else A.slots[i]?
theorem Laid.zero (A : Cell) (lo : Nat) (f : Nat → Value) : Laid A A lo (lo + 0) f := ⟨rfl, rfl, rfl, fun i => by rw [if_neg (by omega)]⟩
theorem Laid.step {A Ak : Cell} {lo k : Nat} {f : Nat → Value} {v : Value} (h : Laid A Ak lo k f) (hlo : lo ≤ k) (hk : k < Ak.slots.size) (hv : v = f k) : Laid A (Ak.setSlot k v) lo (k + 1) f := by
  refine ⟨h.1, h.2.1, by simpa [Cell.setSlot] using h.2.2.1, fun i => ?_⟩
  by_cases e : k = i
  · subst e; rw [Cell.slots_setSlot_self v hk, if_pos (by omega), hv]
  · rw [Cell.slots_setSlot_ne v e, h.2.2.2 i]
    by_cases q : lo ≤ i ∧ i < k
    · rw [if_pos q, if_pos (by omega)]
    · rw [if_neg q, if_neg (by omega)]
def U16 : String := "java/lang/StringUTF16"
namespace Cmp5
def yN : MethodName := ⟨"java/lang/StringUTF16", "compress", "([CI[BII)I"⟩
abbrev yB : ByteArray := jdk_52_method_21_code
theorem d0 : decode yB 0 = .ok (.iconst 0, 1) := by decide +kernel
theorem d1 : decode yB 1 = .ok (.istore 5, 2) := by decide +kernel
theorem d3 : decode yB 3 = .ok (.iload 5, 2) := by decide +kernel
theorem d5 : decode yB 5 = .ok (.iload 4, 2) := by decide +kernel
theorem d7 : decode yB 7 = .ok (.if_icmp (.ge) 37, 3) := by decide +kernel
theorem d10 : decode yB 10 = .ok (.aload_n 0, 1) := by decide +kernel
theorem d11 : decode yB 11 = .ok (.iload_n 1, 1) := by decide +kernel
theorem d12 : decode yB 12 = .ok (.caload, 1) := by decide +kernel
theorem d13 : decode yB 13 = .ok (.istore 6, 2) := by decide +kernel
theorem d15 : decode yB 15 = .ok (.iload 6, 2) := by decide +kernel
theorem d17 : decode yB 17 = .ok (.sipush 255, 3) := by decide +kernel
theorem d20 : decode yB 20 = .ok (.if_icmp (.le) 6, 3) := by decide +kernel
theorem d26 : decode yB 26 = .ok (.aload_n 2, 1) := by decide +kernel
theorem d27 : decode yB 27 = .ok (.iload_n 3, 1) := by decide +kernel
theorem d28 : decode yB 28 = .ok (.iload 6, 2) := by decide +kernel
theorem d30 : decode yB 30 = .ok (.i2b, 1) := by decide +kernel
theorem d31 : decode yB 31 = .ok (.bastore, 1) := by decide +kernel
theorem d32 : decode yB 32 = .ok (.iinc 1 1, 3) := by decide +kernel
theorem d35 : decode yB 35 = .ok (.iinc 3 1, 3) := by decide +kernel
theorem d38 : decode yB 38 = .ok (.iinc 5 1, 3) := by decide +kernel
theorem d41 : decode yB 41 = .ok (.goto (-38), 3) := by decide +kernel
theorem d44 : decode yB 44 = .ok (.iload 4, 2) := by decide +kernel
theorem d46 : decode yB 46 = .ok (.ireturn, 1) := by decide +kernel
def site : List Cond := []
def tab : Cond := tabOf yN yB 7 (some .int) site
def P (b : Addr) (A : Cell) (d : Addr) (B : Cell) (o q len : Nat) (args : Array Value) (s : State) : Prop := args = #[.ref b, .int (Int32.ofNat o), .ref d, .int (Int32.ofNat q), .int (Int32.ofNat len)] ∧ Ch b A s ∧ Arr .byte d B s ∧ b ≠ d ∧ o + len ≤ A.slots.size ∧ q + len ≤ B.slots.size ∧ ∀ i, i < len → ¬ 255 < cv A (o + i)
def E (b : Addr) (A : Cell) (d : Addr) (B : Cell) (o q len : Nat) (r : Option Value) (s u : State) : Prop := r = some (.int (Int32.ofNat len)) ∧ ∃ B', Put d B' s u ∧ Laid B B' q (q + len) (fun j => Value.int (lo8 (cv A (o + (j - q)))))
/-- no char of the range above 255: len; the places written hold each char's low byte -/
theorem law (l : Launch) (b : Addr) (A : Cell) (d : Addr) (B : Cell) (o q len : Nat) : Law l yN 5 5 0 0 yB 7 (some .int) site (P b A d B o q len) (E b A d B o q len) (copyLocs d q len) 0 0 := by
  refine Law.of_walk (plainFor_of_name (by decide +kernel)) (by decide +kernel) (by decide +kernel) (by decide) (fun _ _ h => by rw [h.1]; rfl) (fun _ U U' hal hh h => ⟨h.1, h.2.1.mv hal hh, h.2.2.1.mv hal hh, h.2.2.2⟩) (fun r U U' V V' h1 hal h2 h => ⟨h.1, h.2.elim fun B' q => ⟨B', q.1.mv h1 h2, q.2⟩⟩) ?_
  intro p e s m args below meth c s₁ X0 hexec hbytes hml hret hlk hnm hown hh0 W hP
  obtain ⟨rfl, hA, hB, hne, l1, l2, hp⟩ := hP
  have c1 : Steps p.tables e below (s₁.setTop (entryFrame m #[.ref b, .int (Int32.ofNat o), .ref d, .int (Int32.ofNat q), .int (Int32.ofNat len)] 7)) (s₁.setTop (mkF m 0 #[.val (.ref b), .val (.int (Int32.ofNat o)), .val (.ref d), .val (.int (Int32.ofNat q)), .val (.int (Int32.ofNat len)), .unset, .unset] [])) := entry rfl
  have hA0 := hA.1.mv X0.warmed.alike hh0
  have hB0 := hB.mv X0.warmed.alike hh0
  have a31 := hA.1.2.2.2
  have c2 : Steps p.tables e below (s₁.setTop (entryFrame m #[.ref b, .int (Int32.ofNat o), .ref d, .int (Int32.ofNat q), .int (Int32.ofNat len)] 7)) (s₁.setTop (mkF m 3 #[.val (.ref b), .val (.int (Int32.ofNat o)), .val (.ref d), .val (.int (Int32.ofNat q)), .val (.int (Int32.ofNat len)), .val (.int 0), .unset] [])) := c1.trans (by
    refine iconstV X0.here hexec rfl 0 (hb hbytes d0) (by decide) ?_
    refine XS.istore X0.here hexec rfl (hb hbytes d1) rfl rfl ?_
    exact Steps.refl _)
  have loop : ∀ (r i : Nat), i + r = len → ∀ (z : Slot), (z = .unset ∨ ∃ w, z = .val w ∧ w.category = 1) → ∀ (Tl : State) (Bk : Cell), Stand p l e { frames := 0, locals := 0, cells := 0, slots := 0 } s m #[.ref b, .int (Int32.ofNat o), .ref d, .int (Int32.ofNat q), .int (Int32.ofNat len)] below meth c Tl ([] ++ copyLocs d q i) 0 0 → Put d Bk s₁ Tl → Laid B Bk q (q + i) (fun j => Value.int (lo8 (cv A (o + (j - q))))) →
      Steps p.tables e below (s₁.setTop (entryFrame m #[.ref b, .int (Int32.ofNat o), .ref d, .int (Int32.ofNat q), .int (Int32.ofNat len)] 7)) (Tl.setTop (mkF m 3 #[.val (.ref b), .val (.int (Int32.ofNat (o + i))), .val (.ref d), .val (.int (Int32.ofNat (q + i))), .val (.int (Int32.ofNat len)), .val (.int (Int32.ofNat i)), z] [])) → ∃ (T' : State) (B' : Cell) (z' : Slot), Stand p l e { frames := 0, locals := 0, cells := 0, slots := 0 } s m #[.ref b, .int (Int32.ofNat o), .ref d, .int (Int32.ofNat q), .int (Int32.ofNat len)] below meth c T' ([] ++ copyLocs d q len) 0 0 ∧ Put d B' s₁ T' ∧ Laid B B' q (q + len) (fun j => Value.int (lo8 (cv A (o + (j - q))))) ∧
      Steps p.tables e below (s₁.setTop (entryFrame m #[.ref b, .int (Int32.ofNat o), .ref d, .int (Int32.ofNat q), .int (Int32.ofNat len)] 7)) (T'.setTop (mkF m 3 #[.val (.ref b), .val (.int (Int32.ofNat (o + len))), .val (.ref d), .val (.int (Int32.ofNat (q + len))), .val (.int (Int32.ofNat len)), .val (.int (Int32.ofNat len)), z'] [])) := by
    intro r
    induction r with
    | zero =>
      intro i hi z hz Tl Bk Xl pl fl cl
      have hil : i = len := by omega
      rw [hil] at Xl fl cl
      exact ⟨Tl, Bk, z, Xl, pl, fl, cl⟩
    | succ r ih =>
      intro i hi z hz Tl Bk Xl pl fl cl
      have all := X0.warmed.alike.symm.trans Xl.warmed.alike
      have hAl := hA0.keep all (pl.other hne hA0.1)
      have hBk := hB0.like all pl.1 fl.1 fl.2.1 fl.2.2.1
      have hlt : q + i < Bk.slots.size := by rw [fl.2.2.1]; omega
      have c3 : Steps p.tables e below (s₁.setTop (entryFrame m #[.ref b, .int (Int32.ofNat o), .ref d, .int (Int32.ofNat q), .int (Int32.ofNat len)] 7)) (Tl.setTop (mkF m 12 #[.val (.ref b), .val (.int (Int32.ofNat (o + i))), .val (.ref d), .val (.int (Int32.ofNat (q + i))), .val (.int (Int32.ofNat len)), .val (.int (Int32.ofNat i)), z] [.int (Int32.ofNat (o + i)), .ref b])) := cl.trans (by
        refine XS.iload Xl.here hexec rfl (hb hbytes d3) rfl ?_
        refine XS.iload Xl.here hexec rfl (hb hbytes d5) rfl ?_
        refine XS.icmpNo Xl.here hexec rfl (hb hbytes d7) rfl (ii_ge_f (lt32 (by omega) (by omega))) ?_
        refine XS.aloadN Xl.here hexec rfl (hb hbytes d10) rfl rfl ?_
        refine XS.iloadN Xl.here hexec rfl (hb hbytes d11) rfl ?_
        exact Steps.refl _)
      have c4 : Steps p.tables e below (s₁.setTop (entryFrame m #[.ref b, .int (Int32.ofNat o), .ref d, .int (Int32.ofNat q), .int (Int32.ofNat len)] 7)) (Tl.setTop (mkF m 13 #[.val (.ref b), .val (.int (Int32.ofNat (o + i))), .val (.ref d), .val (.int (Int32.ofNat (q + i))), .val (.int (Int32.ofNat len)), .val (.int (Int32.ofNat i)), z] [.int (cv A (o + i))])) := c3.trans (by
        refine Xl.aget hexec hAl rfl (hA.get (i := o + i) (by omega)) rfl rfl (hb hbytes d12) ?_
        exact Steps.refl _)
      have c5 : Steps p.tables e below (s₁.setTop (entryFrame m #[.ref b, .int (Int32.ofNat o), .ref d, .int (Int32.ofNat q), .int (Int32.ofNat len)] 7)) (Tl.setTop (mkF m 15 #[.val (.ref b), .val (.int (Int32.ofNat (o + i))), .val (.ref d), .val (.int (Int32.ofNat (q + i))), .val (.int (Int32.ofNat len)), .val (.int (Int32.ofNat i)), .val (.int (cv A (o + i)))] [])) := c4.trans (by
        refine XS.istoreS Xl.here hexec rfl (hb hbytes d13) rfl rfl hz ?_
        exact Steps.refl _)
      have c6 : Steps p.tables e below (s₁.setTop (entryFrame m #[.ref b, .int (Int32.ofNat o), .ref d, .int (Int32.ofNat q), .int (Int32.ofNat len)] 7)) (Tl.setTop (mkF m 31 #[.val (.ref b), .val (.int (Int32.ofNat (o + i))), .val (.ref d), .val (.int (Int32.ofNat (q + i))), .val (.int (Int32.ofNat len)), .val (.int (Int32.ofNat i)), .val (.int (cv A (o + i)))] [.int (lo8 (cv A (o + i))), .int (Int32.ofNat (q + i)), .ref d])) := c5.trans (by
        refine XS.iload Xl.here hexec rfl (hb hbytes d15) rfl ?_
        refine sipushV Xl.here hexec rfl 255 (hb hbytes d17) (by decide) ?_
        refine XS.icmpYes Xl.here hexec rfl (pc0 := 20) rfl (hb hbytes d20) rfl (ii_le_t (hp i (by omega))) (by decide) rfl ?_
        refine XS.aloadN Xl.here hexec rfl (hb hbytes d26) rfl rfl ?_
        refine XS.iloadN Xl.here hexec rfl (hb hbytes d27) rfl ?_
        refine XS.iload Xl.here hexec rfl (hb hbytes d28) rfl ?_
        refine i2b Xl.here hexec rfl (hb hbytes d30) rfl ?_
        exact Steps.refl _)
      obtain ⟨T7, X7, p7, st7⟩ := Xl.aput hexec hBk rfl hlt rfl (fits_lo8 (cv A (o + i))) (g := (mkF m 31 #[.val (.ref b), .val (.int (Int32.ofNat (o + i))), .val (.ref d), .val (.int (Int32.ofNat (q + i))), .val (.int (Int32.ofNat len)), .val (.int (Int32.ofNat i)), .val (.int (cv A (o + i)))] [.int (lo8 (cv A (o + i))), .int (Int32.ofNat (q + i)), .ref d])) rfl (rest := []) rfl (hb hbytes d31)
      have c8 : Steps p.tables e below (s₁.setTop (entryFrame m #[.ref b, .int (Int32.ofNat o), .ref d, .int (Int32.ofNat q), .int (Int32.ofNat len)] 7)) (T7.setTop (mkF m 32 #[.val (.ref b), .val (.int (Int32.ofNat (o + i))), .val (.ref d), .val (.int (Int32.ofNat (q + i))), .val (.int (Int32.ofNat len)), .val (.int (Int32.ofNat i)), .val (.int (cv A (o + i)))] [])) := c6.trans (st7 _ (Steps.refl _))
      have c9 : Steps p.tables e below (s₁.setTop (entryFrame m #[.ref b, .int (Int32.ofNat o), .ref d, .int (Int32.ofNat q), .int (Int32.ofNat len)] 7)) (T7.setTop (mkF m 3 #[.val (.ref b), .val (.int (Int32.ofNat (o + i) + 1)), .val (.ref d), .val (.int (Int32.ofNat (q + i) + 1)), .val (.int (Int32.ofNat len)), .val (.int (Int32.ofNat i + 1)), .val (.int (cv A (o + i)))] [])) := c8.trans (by
        refine iincV X7.here hexec rfl 1 (hb hbytes d32) (by decide) rfl rfl ?_
        refine iincV X7.here hexec rfl 1 (hb hbytes d35) (by decide) rfl rfl ?_
        refine iincV X7.here hexec rfl 1 (hb hbytes d38) (by decide) rfl rfl ?_
        refine XS.goto X7.here hexec rfl (pc0 := 41) rfl (hb hbytes d41) (by decide) rfl ?_
        exact Steps.refl _)
      have c10 : Steps p.tables e below (s₁.setTop (entryFrame m #[.ref b, .int (Int32.ofNat o), .ref d, .int (Int32.ofNat q), .int (Int32.ofNat len)] 7)) (T7.setTop (mkF m 3 #[.val (.ref b), .val (.int (Int32.ofNat (o + (i + 1)))), .val (.ref d), .val (.int (Int32.ofNat (q + (i + 1)))), .val (.int (Int32.ofNat len)), .val (.int (Int32.ofNat (i + 1))), .val (.int (cv A (o + i)))] [])) := by
        have := c9
        rw [succ32, succ32, succ32] at this
        exact this
      exact ih (i + 1) (by omega) _ (Or.inr ⟨_, rfl, rfl⟩) T7 _ (by rw [copyLocs_step, ← List.append_assoc]; exact X7) (pl.trans p7) (fl.step (by omega) hlt (by simp)) c10
  obtain ⟨T9, B9, z9, X9, p9, f9, g9⟩ := loop len 0 (by omega) .unset (Or.inl rfl) s₁ B (by simpa [copyLocs] using X0) ⟨hB0.1, fun _ _ => rfl, rfl⟩ (Laid.zero _ _ _) c2
  have c11 : Steps p.tables e below (s₁.setTop (entryFrame m #[.ref b, .int (Int32.ofNat o), .ref d, .int (Int32.ofNat q), .int (Int32.ofNat len)] 7)) (T9.setTop (mkF m 46 #[.val (.ref b), .val (.int (Int32.ofNat (o + len))), .val (.ref d), .val (.int (Int32.ofNat (q + len))), .val (.int (Int32.ofNat len)), .val (.int (Int32.ofNat len)), z9] [.int (Int32.ofNat len)])) := g9.trans (by
    refine XS.iload X9.here hexec rfl (hb hbytes d3) rfl ?_
    refine XS.iload X9.here hexec rfl (hb hbytes d5) rfl ?_
    refine XS.icmpYes X9.here hexec rfl (pc0 := 7) rfl (hb hbytes d7) rfl (ii_ge_t (nlt32 (by omega) (Nat.le_refl _))) (by decide) rfl ?_
    refine XS.iload X9.here hexec rfl (hb hbytes d44) rfl ?_
    exact Steps.refl _)
  exact ⟨T9, some (.int (Int32.ofNat len)), _, _, _, X9, by simp, rfl, rfl, (fun h => by cases h), ⟨rfl, B9, p9.from hh0, f9⟩, fun fs hl => c11.trans (X9.ireturnOut hexec hret rfl (Or.inl rfl) (hb hbytes d46) hl)⟩
end Cmp5
namespace Cmp3
def yN : MethodName := ⟨"java/lang/StringUTF16", "compress", "([CII)[B"⟩
abbrev yB : ByteArray := jdk_52_method_16_code
theorem d0 : decode yB 0 = .ok (.iload_n 2, 1) := by decide +kernel
theorem d1 : decode yB 1 = .ok (.newarray .byte, 2) := by decide +kernel
theorem d3 : decode yB 3 = .ok (.astore_n 3, 1) := by decide +kernel
theorem d4 : decode yB 4 = .ok (.aload_n 0, 1) := by decide +kernel
theorem d5 : decode yB 5 = .ok (.iload_n 1, 1) := by decide +kernel
theorem d6 : decode yB 6 = .ok (.aload_n 3, 1) := by decide +kernel
theorem d7 : decode yB 7 = .ok (.iconst 0, 1) := by decide +kernel
theorem d8 : decode yB 8 = .ok (.iload_n 2, 1) := by decide +kernel
theorem d9 : decode yB 9 = .ok (.invokestatic 115, 3) := by decide +kernel
theorem d12 : decode yB 12 = .ok (.istore 4, 2) := by decide +kernel
theorem d14 : decode yB 14 = .ok (.iload 4, 2) := by decide +kernel
theorem d16 : decode yB 16 = .ok (.iload_n 2, 1) := by decide +kernel
theorem d17 : decode yB 17 = .ok (.if_icmp (.eq) 40, 3) := by decide +kernel
theorem d57 : decode yB 57 = .ok (.aload_n 3, 1) := by decide +kernel
theorem d58 : decode yB 58 = .ok (.areturn, 1) := by decide +kernel
def site : List Cond := [.arrayClass .byte, Cmp5.tab] ++ staticW U16 115 Cmp5.yN
def tab : Cond := tabOf yN yB 6 (some (.array .byte)) site
def P (b : Addr) (A : Cell) (o len : Nat) (args : Array Value) (s : State) : Prop := args = #[.ref b, .int (Int32.ofNat o), .int (Int32.ofNat len)] ∧ Ch b A s ∧ o + len ≤ A.slots.size ∧ len ≤ 536870912 ∧ ∀ i, i < len → ¬ 255 < cv A (o + i)
def E (b : Addr) (A : Cell) (o len : Nat) (r : Option Value) (s u : State) : Prop := NewArr .byte "[B" len (fun j => .int (lo8 (cv A (o + j)))) r s u ∧ u.heap.size = s.heap.size + 1
/-- no char of the range above 255: a new byte[] of their low bytes -/
theorem law (l : Launch) (b : Addr) (A : Cell) (o len : Nat) : Law l yN 3 3 1 18 yB 6 (some (.array .byte)) site (P b A o len) (E b A o len) [] 1 len := by
  refine Law.of_walk (plainFor_of_name (by decide +kernel)) (by decide +kernel) (by decide +kernel) (by decide) (fun _ _ h => by rw [h.1]; rfl) (fun _ U U' hal hh h => ⟨h.1, h.2.1.mv hal hh, h.2.2⟩) (fun r U U' V V' h1 hal h2 h => ⟨NewArr.mv r U U' V V' h1 hal h2 h.1, by rw [h1, h2]; exact h.2⟩) ?_
  intro p e s m args below meth c s₁ X0 hexec hbytes hml hret hlk hnm hown hh0 W hP
  obtain ⟨rfl, hA, l1, l2, hp⟩ := hP
  have a31 := hA.1.2.2.2
  have c1 : Steps p.tables e below (s₁.setTop (entryFrame m #[.ref b, .int (Int32.ofNat o), .int (Int32.ofNat len)] 6)) (s₁.setTop (mkF m 0 #[.val (.ref b), .val (.int (Int32.ofNat o)), .val (.int (Int32.ofNat len)), .unset, .unset, .unset] [])) := entry rfl
  have c2 : Steps p.tables e below (s₁.setTop (entryFrame m #[.ref b, .int (Int32.ofNat o), .int (Int32.ofNat len)] 6)) (s₁.setTop (mkF m 1 #[.val (.ref b), .val (.int (Int32.ofNat o)), .val (.int (Int32.ofNat len)), .unset, .unset, .unset] [.int (Int32.ofNat len)])) := c1.trans (by
    refine XS.iloadN X0.here hexec rfl (hb hbytes d0) rfl ?_
    exact Steps.refl _)
  obtain ⟨T3, B3, X3, ba3, bs3, bv3, bh3, bf3, st3⟩ := X0.anew hexec (atype := .byte) (wk W (.arrayClass .byte)) rfl (by show len * 1 ≤ _; omega) (by omega) (g := (mkF m 1 #[.val (.ref b), .val (.int (Int32.ofNat o)), .val (.int (Int32.ofNat len)), .unset, .unset, .unset] [.int (Int32.ofNat len)])) rfl (hb hbytes d1) (rest := []) rfl (Nat.le_refl _) (by show 0 + len ≤ len; omega)
  rw [hh0] at ba3 st3
  have kp3 : XT.Kept s T3 := (XT.Kept.of_eq hh0).push bh3
  have hA3 := hA.keep X3.warmed.alike (kp3 _ _ hA.1.1)
  have hne : b ≠ s.heap.size := hA.1.ne
  have c4 : Steps p.tables e below (s₁.setTop (entryFrame m #[.ref b, .int (Int32.ofNat o), .int (Int32.ofNat len)] 6)) (T3.setTop (mkF m 3 #[.val (.ref b), .val (.int (Int32.ofNat o)), .val (.int (Int32.ofNat len)), .unset, .unset, .unset] [.ref s.heap.size])) := c2.trans (st3 _ (Steps.refl _))
  have c5 : Steps p.tables e below (s₁.setTop (entryFrame m #[.ref b, .int (Int32.ofNat o), .int (Int32.ofNat len)] 6)) (T3.setTop (mkF m 9 #[.val (.ref b), .val (.int (Int32.ofNat o)), .val (.int (Int32.ofNat len)), .val (.ref s.heap.size), .unset, .unset] [.int (Int32.ofNat len), .int 0, .ref s.heap.size, .int (Int32.ofNat o), .ref b])) := c4.trans (by
    refine XS.astoreN X3.here hexec rfl (hb hbytes d3) rfl rfl rfl ?_
    refine XS.aloadN X3.here hexec rfl (hb hbytes d4) rfl rfl ?_
    refine XS.iloadN X3.here hexec rfl (hb hbytes d5) rfl ?_
    refine XS.aloadN X3.here hexec rfl (hb hbytes d6) rfl rfl ?_
    refine iconstV X3.here hexec rfl 0 (hb hbytes d7) (by decide) ?_
    refine XS.iloadN X3.here hexec rfl (hb hbytes d8) rfl ?_
    exact Steps.refl _)
  obtain ⟨v6, T6, X6, E6, g6⟩ := X3.callS hexec (Cmp5.law l b A s.heap.size B3 o 0 len) hown (wks W (staticW U16 115 Cmp5.yN)) (wk W Cmp5.tab) (W := 0) (Nat.le_of_ble_eq_true rfl) (Nat.le_of_ble_eq_true rfl) (Nat.le_refl _) (by show 0 + len + 0 ≤ len; omega) (g := (mkF m 9 #[.val (.ref b), .val (.int (Int32.ofNat o)), .val (.int (Int32.ofNat len)), .val (.ref s.heap.size), .unset, .unset] [.int (Int32.ofNat len), .int (Int32.ofNat 0), .ref s.heap.size, .int (Int32.ofNat o), .ref b])) rfl (by rw [hml]; rfl) c5 (argsL := [.ref b, .int (Int32.ofNat o), .ref s.heap.size, .int (Int32.ofNat 0), .int (Int32.ofNat len)]) (rest := []) rfl rfl (by show 2 * 0 + 0 ≤ _; decide) (hb hbytes d9) (⟨rfl, hA3, ba3, hne, l1, by rw [bs3]; simp, hp⟩)
  obtain ⟨rfl, B6, p6, f6⟩ := E6
  have c7 : Steps p.tables e below (s₁.setTop (entryFrame m #[.ref b, .int (Int32.ofNat o), .int (Int32.ofNat len)] 6)) (T6.setTop (mkF m 12 #[.val (.ref b), .val (.int (Int32.ofNat o)), .val (.int (Int32.ofNat len)), .val (.ref s.heap.size), .unset, .unset] [.int (Int32.ofNat len)])) := g6
  have c8 : Steps p.tables e below (s₁.setTop (entryFrame m #[.ref b, .int (Int32.ofNat o), .int (Int32.ofNat len)] 6)) (T6.setTop (mkF m 58 #[.val (.ref b), .val (.int (Int32.ofNat o)), .val (.int (Int32.ofNat len)), .val (.ref s.heap.size), .val (.int (Int32.ofNat len)), .unset] [.ref s.heap.size])) := c7.trans (by
    refine XS.istore X6.here hexec rfl (hb hbytes d12) rfl rfl ?_
    refine XS.iload X6.here hexec rfl (hb hbytes d14) rfl ?_
    refine XS.iloadN X6.here hexec rfl (hb hbytes d16) rfl ?_
    refine XS.icmpYes X6.here hexec rfl (pc0 := 17) rfl (hb hbytes d17) rfl (ii_eq_t rfl) (by decide) rfl ?_
    refine XS.aloadN X6.here hexec rfl (hb hbytes d57) rfl rfl ?_
    exact Steps.refl _)
  have X8 := X6.wide (L' := []) (cells' := 1) (slots' := len) (fun x hx hlt => by
    simp only [List.nil_append, copyLocs, List.mem_map, List.mem_range] at hx
    obtain ⟨i, -, rfl⟩ := hx
    exact absurd hlt (Nat.lt_irrefl _)) (Nat.le_refl _) (by omega)
  exact ⟨T6, some (.ref s.heap.size), _, _, _, X8, rfl, rfl, rfl, (fun h => by cases h), ⟨⟨rfl, B6, ba3.like (X3.warmed.alike.symm.trans X6.warmed.alike) p6.1 f6.1 f6.2.1 f6.2.2.1, f6.2.1.trans bv3, by rw [X6.warmed.alike.findClass, f6.1]; exact bf3, by rw [f6.2.2.1, bs3]; simp, fun j hj => by rw [f6.2.2.2 j, if_pos (by omega)]; rfl, kp3.put p6 (Nat.le_refl _)⟩, by rw [p6.2.2, bh3, hh0]; simp⟩, fun fs hl => c8.trans (X8.areturnOut hexec rfl hret rfl (hb hbytes d58) hl)⟩
end Cmp3
namespace CodL
def yN : MethodName := ⟨"java/lang/StringUTF16", "coderFromArrayLen", "([BI)B"⟩
abbrev yB : ByteArray := jdk_52_method_15_code
theorem d0 : decode yB 0 = .ok (.iload_n 1, 1) := by decide +kernel
theorem d1 : decode yB 1 = .ok (.aload_n 0, 1) := by decide +kernel
theorem d2 : decode yB 2 = .ok (.arraylength, 1) := by decide +kernel
theorem d3 : decode yB 3 = .ok (.isub, 1) := by decide +kernel
theorem d4 : decode yB 4 = .ok (.bipush 31, 2) := by decide +kernel
theorem d6 : decode yB 6 = .ok (.iushr, 1) := by decide +kernel
theorem d7 : decode yB 7 = .ok (.i2b, 1) := by decide +kernel
theorem d8 : decode yB 8 = .ok (.ireturn, 1) := by decide +kernel
def site : List Cond := []
def tab : Cond := tabOf yN yB 2 (some .byte) site
def P (d : Addr) (B : Cell) (args : Array Value) (s : State) : Prop := args = #[.ref d, .int (Int32.ofNat B.slots.size)] ∧ Arr .byte d B s
def E (r : Option Value) (s u : State) : Prop := XT.PureE (some (.int 0)) r s u
/-- an array as long as the number of chars: LATIN1 -/
theorem law (l : Launch) (d : Addr) (B : Cell) : Law l yN 2 2 0 0 yB 2 (some .byte) site (P d B) E [] 0 0 := by
  refine Law.of_walk (plainFor_of_name (by decide +kernel)) (by decide +kernel) (by decide +kernel) (by decide) (fun _ _ h => by rw [h.1]; rfl) (fun _ U U' hal hh h => ⟨h.1, h.2.mv hal hh⟩) (fun r U U' V V' h1 hal h2 h => XT.PureE.mv r U U' V V' h1 hal h2 h) ?_
  intro p e s m args below meth c s₁ X0 hexec hbytes hml hret hlk hnm hown hh0 W hP
  obtain ⟨rfl, hB⟩ := hP
  have hB0 := hB.mv X0.warmed.alike hh0
  have c1 : Steps p.tables e below (s₁.setTop (entryFrame m #[.ref d, .int (Int32.ofNat B.slots.size)] 2)) (s₁.setTop (mkF m 0 #[.val (.ref d), .val (.int (Int32.ofNat B.slots.size))] [])) := entry rfl
  have c2 : Steps p.tables e below (s₁.setTop (entryFrame m #[.ref d, .int (Int32.ofNat B.slots.size)] 2)) (s₁.setTop (mkF m 2 #[.val (.ref d), .val (.int (Int32.ofNat B.slots.size))] [.ref d, .int (Int32.ofNat B.slots.size)])) := c1.trans (by
    refine XS.iloadN X0.here hexec rfl (hb hbytes d0) rfl ?_
    refine XS.aloadN X0.here hexec rfl (hb hbytes d1) rfl rfl ?_
    exact Steps.refl _)
  have c3 : Steps p.tables e below (s₁.setTop (entryFrame m #[.ref d, .int (Int32.ofNat B.slots.size)] 2)) (s₁.setTop (mkF m 8 #[.val (.ref d), .val (.int (Int32.ofNat B.slots.size))] [.int (lo8 (ushr (Int32.ofNat B.slots.size - Int32.ofNat B.slots.size) 31))])) := c2.trans (by
    refine X0.alen hexec hB0 rfl rfl (hb hbytes d2) ?_
    refine XS.isub X0.here hexec rfl (hb hbytes d3) rfl ?_
    refine bipushV X0.here hexec rfl 31 (hb hbytes d4) (by decide) ?_
    refine iushr X0.here hexec rfl (hb hbytes d6) rfl ?_
    refine i2b X0.here hexec rfl (hb hbytes d7) rfl ?_
    exact Steps.refl _)
  have e0 : lo8 (ushr (Int32.ofNat B.slots.size - Int32.ofNat B.slots.size) 31) = 0 := by rw [Int32.sub_self]; decide
  rw [e0] at c3
  exact ⟨s₁, some (.int 0), _, _, _, X0, rfl, rfl, rfl, (fun h => by cases h), ⟨rfl, hh0⟩, fun fs hl => c3.trans (X0.ireturnOut hexec hret rfl (Or.inr (Or.inr (Or.inl rfl))) (hb hbytes d8) hl)⟩
end CodL
/-- the String at a is Latin-1 over a new byte[] (the heap's one new cell): the low bytes of the len chars of A from o on; every cell but a is kept -/
def Got (a : Addr) (D : Cell) (fV fC : Field) (A : Cell) (o len : Nat) (r : Option Value) (s u : State) : Prop := r = none ∧ ∃ D' V : Cell, Blank "java/lang/String" a D' u ∧ Same D D' [fV.slot, fC.slot] ∧ D'.slots[fV.slot]? = some (.ref s.heap.size) ∧ D'.slots[fC.slot]? = some (.int 0) ∧ Arr .byte s.heap.size V u ∧ V.vm = .none ∧ u.vm.findClass "[B" = some V.cls ∧ V.slots.size = len ∧ (∀ j, j < len → V.slots[j]? = some (.int (lo8 (cv A (o + j))))) ∧ (∀ (y : Addr) (c : Cell), y ≠ a → s.heap[y]? = some c → u.heap[y]? = some c) ∧ u.heap.size = s.heap.size + 1
theorem Got.mv {a : Addr} {D A : Cell} {fV fC : Field} {o len : Nat} : ∀ r (U U' V V' : State), U'.heap = U.heap → V.vm.Alike V'.vm → V'.heap = V.heap → Got a D fV fC A o len r U V → Got a D fV fC A o len r U' V' :=
  fun r U U' V V' h1 hal h2 ⟨e0, D', X, a1, a2, a3, a4, a5, a6, a7, a8, a9, a10, a11⟩ => ⟨e0, D', X, a1.mv hal h2, a2, by rw [h1]; exact a3, a4, by rw [h1]; exact a5.mv hal h2, a6, by rw [hal.findClass]; exact a7, a8, a9, by rw [h1, h2]; exact a10, by rw [h1, h2]; exact a11⟩
namespace New4
def yN : MethodName := ⟨"java/lang/String", "<init>", "([CIILjava/lang/Void;)V"⟩
abbrev yB : ByteArray := jdk_42_method_149_code
theorem d0 : decode yB 0 = .ok (.aload_n 0, 1) := by decide +kernel
theorem d1 : decode yB 1 = .ok (.invokespecial 1, 3) := by decide +kernel
theorem d4 : decode yB 4 = .ok (.iload_n 3, 1) := by decide +kernel
theorem d5 : decode yB 5 = .ok (.ifCond (.ne) 22, 3) := by decide +kernel
theorem d27 : decode yB 27 = .ok (.getstatic 38, 3) := by decide +kernel
theorem d30 : decode yB 30 = .ok (.ifCond (.eq) 28, 3) := by decide +kernel
theorem d33 : decode yB 33 = .ok (.aload_n 1, 1) := by decide +kernel
theorem d34 : decode yB 34 = .ok (.iload_n 2, 1) := by decide +kernel
theorem d35 : decode yB 35 = .ok (.iload_n 3, 1) := by decide +kernel
theorem d36 : decode yB 36 = .ok (.invokestatic 177, 3) := by decide +kernel
theorem d39 : decode yB 39 = .ok (.astore 5, 2) := by decide +kernel
theorem d41 : decode yB 41 = .ok (.aload_n 0, 1) := by decide +kernel
theorem d42 : decode yB 42 = .ok (.aload 5, 2) := by decide +kernel
theorem d44 : decode yB 44 = .ok (.iload_n 3, 1) := by decide +kernel
theorem d45 : decode yB 45 = .ok (.invokestatic 47, 3) := by decide +kernel
theorem d48 : decode yB 48 = .ok (.putfield 15, 3) := by decide +kernel
theorem d51 : decode yB 51 = .ok (.aload_n 0, 1) := by decide +kernel
theorem d52 : decode yB 52 = .ok (.aload 5, 2) := by decide +kernel
theorem d54 : decode yB 54 = .ok (.putfield 9, 3) := by decide +kernel
theorem d57 : decode yB 57 = .ok (.return_, 1) := by decide +kernel
def site : List Cond := [.fieldLink "java/lang/String" 38 "java/lang/String" "COMPACT_STRINGS" "Z", Cmp3.tab, CodL.tab, .laysFinal "java/lang/String" "java/lang/String" "value" "[B", .fieldLink "java/lang/String" 9 "java/lang/String" "value" "[B", .laysFinal "java/lang/String" "java/lang/String" "coder" "B", .fieldLink "java/lang/String" 15 "java/lang/String" "coder" "B"] ++ objW "java/lang/String" 1 ++ staticW "java/lang/String" 177 Cmp3.yN ++ staticW "java/lang/String" 47 CodL.yN
def tab : Cond := tabOf yN yB 6 none site
def P (a : Addr) (D : Cell) (fV fC : Field) (b : Addr) (A : Cell) (z : Int32) (o len : Nat) (args : Array Value) (s : State) : Prop := args = #[.ref a, .ref b, .int (Int32.ofNat o), .int (Int32.ofNat len), .null] ∧ Blank "java/lang/String" a D s ∧ Found "java/lang/String" "value" "[B" fV s ∧ Found "java/lang/String" "coder" "B" fC s ∧ Ch b A s ∧ StaticIs s "java/lang/String" "COMPACT_STRINGS" "Z" (.int z) ∧ ¬ z = 0 ∧ 0 < len ∧ o + len ≤ A.slots.size ∧ len ≤ 536870912 ∧ ∀ i, i < len → ¬ 255 < cv A (o + i)
def E (a : Addr) (D : Cell) (fV fC : Field) (A : Cell) (o len : Nat) (r : Option Value) (s u : State) : Prop := Got a D fV fC A o len r s u
/-- len > 0, no char of the range above 255: a Latin-1 String of their low bytes -/
theorem law (l : Launch) (a : Addr) (D : Cell) (fV fC : Field) (b : Addr) (A : Cell) (z : Int32) (o len : Nat) : Law l yN 5 4 2 35 yB 6 none site (P a D fV fC b A z o len) (E a D fV fC A o len) [⟨a, fC.slot⟩, ⟨a, fV.slot⟩] 1 len := by
  refine Law.of_walk (plainFor_of_name (by decide +kernel)) (by decide +kernel) (by decide +kernel) (by decide) (fun _ _ h => by rw [h.1]; rfl) (fun _ U U' hal hh h => ⟨h.1, h.2.1.mv hal hh, h.2.2.1.al hal, h.2.2.2.1.al hal, h.2.2.2.2.1.mv hal hh, h.2.2.2.2.2.1.there hal hh, h.2.2.2.2.2.2⟩) (fun r U U' V V' h1 hal h2 h => Got.mv r U U' V V' h1 hal h2 h) ?_
  intro p e s m args below meth c s₁ X0 hexec hbytes hml hret hlk hnm hown hh0 W hP
  obtain ⟨rfl, hB, f1, f2, hA, s1, hz, l0, l1, l2, hp⟩ := hP
  have a31 := hA.1.2.2.2
  have c1 : Steps p.tables e below (s₁.setTop (entryFrame m #[.ref a, .ref b, .int (Int32.ofNat o), .int (Int32.ofNat len), .null] 6)) (s₁.setTop (mkF m 0 #[.val (.ref a), .val (.ref b), .val (.int (Int32.ofNat o)), .val (.int (Int32.ofNat len)), .val .null, .unset] [])) := entry rfl
  have c2 : Steps p.tables e below (s₁.setTop (entryFrame m #[.ref a, .ref b, .int (Int32.ofNat o), .int (Int32.ofNat len), .null] 6)) (s₁.setTop (mkF m 1 #[.val (.ref a), .val (.ref b), .val (.int (Int32.ofNat o)), .val (.int (Int32.ofNat len)), .val .null, .unset] [.ref a])) := c1.trans (by
    refine XS.aloadN X0.here hexec rfl (hb hbytes d0) rfl rfl ?_
    exact Steps.refl _)
  obtain ⟨T3, X3, q3, st3⟩ := X0.oinit hexec hown (wks W (objW "java/lang/String" 1)) (g := (mkF m 1 #[.val (.ref a), .val (.ref b), .val (.int (Int32.ofNat o)), .val (.int (Int32.ofNat len)), .val .null, .unset] [.ref a])) rfl (by rw [hml]; rfl) (rest := []) rfl (hb hbytes d1) (W := 0) (by show 2 * 0 + 0 ≤ _; decide) (Nat.le_of_ble_eq_true rfl) (Nat.le_of_ble_eq_true rfl)
  have hh3 := q3.trans hh0
  have c4 : Steps p.tables e below (s₁.setTop (entryFrame m #[.ref a, .ref b, .int (Int32.ofNat o), .int (Int32.ofNat len), .null] 6)) (T3.setTop (mkF m 27 #[.val (.ref a), .val (.ref b), .val (.int (Int32.ofNat o)), .val (.int (Int32.ofNat len)), .val .null, .unset] [])) := (c2.trans (st3 _ (Steps.refl _))).trans (by
    refine XS.iloadN X3.here hexec rfl (hb hbytes d4) rfl ?_
    refine XS.ifYes X3.here hexec rfl (pc0 := 5) rfl (hb hbytes d5) rfl (i0_ne_t (nz32 (by omega) l0)) (by decide) rfl ?_
    exact Steps.refl _)
  obtain ⟨T5, X5, q5, st5⟩ := X3.sget hexec hown (wk W (.fieldLink "java/lang/String" 38 "java/lang/String" "COMPACT_STRINGS" "Z")) s1 (fun _ _ h => by rw [hh3]; exact h) (g := (mkF m 27 #[.val (.ref a), .val (.ref b), .val (.int (Int32.ofNat o)), .val (.int (Int32.ofNat len)), .val .null, .unset] [])) rfl (hb hbytes d27)
  have hh5 := q5.trans hh3
  have c6 : Steps p.tables e below (s₁.setTop (entryFrame m #[.ref a, .ref b, .int (Int32.ofNat o), .int (Int32.ofNat len), .null] 6)) (T5.setTop (mkF m 30 #[.val (.ref a), .val (.ref b), .val (.int (Int32.ofNat o)), .val (.int (Int32.ofNat len)), .val .null, .unset] [.int z])) := c4.trans (st5 _ (Steps.refl _))
  have c7 : Steps p.tables e below (s₁.setTop (entryFrame m #[.ref a, .ref b, .int (Int32.ofNat o), .int (Int32.ofNat len), .null] 6)) (T5.setTop (mkF m 36 #[.val (.ref a), .val (.ref b), .val (.int (Int32.ofNat o)), .val (.int (Int32.ofNat len)), .val .null, .unset] [.int (Int32.ofNat len), .int (Int32.ofNat o), .ref b])) := c6.trans (by
    refine XS.ifNo X5.here hexec rfl (hb hbytes d30) rfl (i0_eq_f hz) ?_
    refine XS.aloadN X5.here hexec rfl (hb hbytes d33) rfl rfl ?_
    refine XS.iloadN X5.here hexec rfl (hb hbytes d34) rfl ?_
    refine XS.iloadN X5.here hexec rfl (hb hbytes d35) rfl ?_
    exact Steps.refl _)
  obtain ⟨v8, T8, X8, E8, g8⟩ := X5.callS hexec (Cmp3.law l b A o len) hown (wks W (staticW "java/lang/String" 177 Cmp3.yN)) (wk W Cmp3.tab) (W := 0) (Nat.le_of_ble_eq_true rfl) (Nat.le_of_ble_eq_true rfl) (Nat.le_refl _) (by show 0 + len ≤ len; omega) (g := (mkF m 36 #[.val (.ref a), .val (.ref b), .val (.int (Int32.ofNat o)), .val (.int (Int32.ofNat len)), .val .null, .unset] [.int (Int32.ofNat len), .int (Int32.ofNat o), .ref b])) rfl (by rw [hml]; rfl) c7 (argsL := [.ref b, .int (Int32.ofNat o), .int (Int32.ofNat len)]) (rest := []) rfl rfl (by show 2 * 0 + 0 ≤ _; decide) (hb hbytes d36) (⟨rfl, hA.mv X5.warmed.alike hh5, l1, l2, hp⟩)
  obtain ⟨e8, z8⟩ := E8
  obtain ⟨rfl, N, n1, n2, n3, n4, n5, n6⟩ := NewArr.mv _ T5 s _ _ hh5.symm (Vm.Alike.refl _) rfl e8
  rw [hh5] at z8
  have hB1 := hB.keep X8.warmed.alike (n6 _ _ hB.1)
  have hne : s.heap.size ≠ a := (Nat.ne_of_lt (Array.getElem?_eq_some_iff.mp hB.1).1).symm
  have c9 : Steps p.tables e below (s₁.setTop (entryFrame m #[.ref a, .ref b, .int (Int32.ofNat o), .int (Int32.ofNat len), .null] 6)) (T8.setTop (mkF m 39 #[.val (.ref a), .val (.ref b), .val (.int (Int32.ofNat o)), .val (.int (Int32.ofNat len)), .val .null, .unset] [.ref s.heap.size])) := g8
  have c10 : Steps p.tables e below (s₁.setTop (entryFrame m #[.ref a, .ref b, .int (Int32.ofNat o), .int (Int32.ofNat len), .null] 6)) (T8.setTop (mkF m 45 #[.val (.ref a), .val (.ref b), .val (.int (Int32.ofNat o)), .val (.int (Int32.ofNat len)), .val .null, .val (.ref s.heap.size)] [.int (Int32.ofNat N.slots.size), .ref s.heap.size, .ref a])) := by
    have hc : Steps p.tables e below (s₁.setTop (entryFrame m #[.ref a, .ref b, .int (Int32.ofNat o), .int (Int32.ofNat len), .null] 6)) (T8.setTop (mkF m 45 #[.val (.ref a), .val (.ref b), .val (.int (Int32.ofNat o)), .val (.int (Int32.ofNat len)), .val .null, .val (.ref s.heap.size)] [.int (Int32.ofNat len), .ref s.heap.size, .ref a])) := c9.trans (by
      refine XS.astore X8.here hexec rfl (hb hbytes d39) rfl rfl rfl ?_
      refine XS.aloadN X8.here hexec rfl (hb hbytes d41) rfl rfl ?_
      refine XS.aload X8.here hexec rfl (hb hbytes d42) rfl rfl ?_
      refine XS.iloadN X8.here hexec rfl (hb hbytes d44) rfl ?_
      exact Steps.refl _)
    rw [n4]; exact hc
  obtain ⟨v11, T11, X11, E11, g11⟩ := X8.callS hexec (CodL.law l s.heap.size N) hown (wks W (staticW "java/lang/String" 47 CodL.yN)) (wk W CodL.tab) (W := 1) (Nat.le_of_ble_eq_true rfl) (Nat.le_of_ble_eq_true rfl) (Nat.le_refl _) (by show 0 + len + 0 ≤ len; omega) (g := (mkF m 45 #[.val (.ref a), .val (.ref b), .val (.int (Int32.ofNat o)), .val (.int (Int32.ofNat len)), .val .null, .val (.ref s.heap.size)] [.int (Int32.ofNat N.slots.size), .ref s.heap.size, .ref a])) rfl (by rw [hml]; rfl) c10 (argsL := [.ref s.heap.size, .int (Int32.ofNat N.slots.size)]) (rest := [.ref a]) rfl rfl (by show 2 * 0 + (1 + 0) ≤ _; decide) (hb hbytes d45) (⟨rfl, n1⟩)
  obtain ⟨rfl, q11⟩ := E11
  have hB11 := hB1.mv (X8.warmed.alike.symm.trans X11.warmed.alike) q11
  have c12 : Steps p.tables e below (s₁.setTop (entryFrame m #[.ref a, .ref b, .int (Int32.ofNat o), .int (Int32.ofNat len), .null] 6)) (T11.setTop (mkF m 48 #[.val (.ref a), .val (.ref b), .val (.int (Int32.ofNat o)), .val (.int (Int32.ofNat len)), .val .null, .val (.ref s.heap.size)] [.int 0, .ref a])) := g11
  obtain ⟨T13, X13, p13, bl13, sl13, st13⟩ := X11.finit hexec hown (wk W (.fieldLink "java/lang/String" 15 "java/lang/String" "coder" "B")) (Or.inr ⟨_, (wk W (.laysFinal "java/lang/String" "java/lang/String" "coder" "B"))⟩) (Or.inl ⟨rfl, hnm⟩) f2 (Or.inl rfl) hB11 (t := .byte) (by decide +kernel) rfl (g := (mkF m 48 #[.val (.ref a), .val (.ref b), .val (.int (Int32.ofNat o)), .val (.int (Int32.ofNat len)), .val .null, .val (.ref s.heap.size)] [.int 0, .ref a])) rfl (rest := []) rfl (hb hbytes d48)
  have c14 : Steps p.tables e below (s₁.setTop (entryFrame m #[.ref a, .ref b, .int (Int32.ofNat o), .int (Int32.ofNat len), .null] 6)) (T13.setTop (mkF m 54 #[.val (.ref a), .val (.ref b), .val (.int (Int32.ofNat o)), .val (.int (Int32.ofNat len)), .val .null, .val (.ref s.heap.size)] [.ref s.heap.size, .ref a])) := (c12.trans (st13 _ (Steps.refl _))).trans (by
    refine XS.aloadN X13.here hexec rfl (hb hbytes d51) rfl rfl ?_
    refine XS.aload X13.here hexec rfl (hb hbytes d52) rfl rfl ?_
    exact Steps.refl _)
  obtain ⟨T15, X15, p15, bl15, sl15, st15⟩ := X13.finit hexec hown (wk W (.fieldLink "java/lang/String" 9 "java/lang/String" "value" "[B")) (Or.inr ⟨_, (wk W (.laysFinal "java/lang/String" "java/lang/String" "value" "[B"))⟩) (Or.inl ⟨rfl, hnm⟩) f1 (Or.inl rfl) bl13 (t := (.array .byte)) (by decide +kernel) rfl (g := (mkF m 54 #[.val (.ref a), .val (.ref b), .val (.int (Int32.ofNat o)), .val (.int (Int32.ofNat len)), .val .null, .val (.ref s.heap.size)] [.ref s.heap.size, .ref a])) rfl (rest := []) rfl (hb hbytes d54)
  have c16 : Steps p.tables e below (s₁.setTop (entryFrame m #[.ref a, .ref b, .int (Int32.ofNat o), .int (Int32.ofNat len), .null] 6)) (T15.setTop (mkF m 57 #[.val (.ref a), .val (.ref b), .val (.int (Int32.ofNat o)), .val (.int (Int32.ofNat len)), .val .null, .val (.ref s.heap.size)] [])) := c14.trans (st15 _ (Steps.refl _))
  have ap := apart (Or.inr ⟨_, (wk W (.laysFinal "java/lang/String" "java/lang/String" "value" "[B"))⟩) (Or.inr ⟨_, (wk W (.laysFinal "java/lang/String" "java/lang/String" "coder" "B"))⟩) f1 f2 (t₁ := .array .byte) (t₂ := .byte) (by decide +kernel) (by decide +kernel) (by decide)
  have al := X8.warmed.alike.symm.trans X15.warmed.alike
  have n7 : T11.heap[s.heap.size]? = some N := by rw [q11]; exact n1.1
  exact ⟨T15, none, _, _, _, X15, by simp, rfl, by omega, (fun _ => rfl), ⟨rfl, _, N, bl15, ((Same.refl D _).set _ (by simp)).set _ (by simp), sl15, (Cell.slots_setSlot_ne _ ap).trans sl13, n1.keep al (p15.other hne (p13.other hne n7)), n2, by rw [al.findClass]; exact n3, n4, n5, fun y c h1 h2 => p15.other h1 (p13.other h1 (by rw [q11]; exact n6 y c h2)), by rw [p15.2.2, p13.2.2, q11]; exact z8⟩, fun fs hl => c16.trans (X15.returnOut hexec hret (hb hbytes d57) hl)⟩
end New4
namespace New1
def yN : MethodName := ⟨"java/lang/String", "<init>", "([C)V"⟩
abbrev yB : ByteArray := jdk_42_method_3_code
theorem d0 : decode yB 0 = .ok (.aload_n 0, 1) := by decide +kernel
theorem d1 : decode yB 1 = .ok (.aload_n 1, 1) := by decide +kernel
theorem d2 : decode yB 2 = .ok (.iconst 0, 1) := by decide +kernel
theorem d3 : decode yB 3 = .ok (.aload_n 1, 1) := by decide +kernel
theorem d4 : decode yB 4 = .ok (.arraylength, 1) := by decide +kernel
theorem d5 : decode yB 5 = .ok (.aconst_null, 1) := by decide +kernel
theorem d6 : decode yB 6 = .ok (.invokespecial 27, 3) := by decide +kernel
theorem d9 : decode yB 9 = .ok (.return_, 1) := by decide +kernel
def site : List Cond := [New4.tab] ++ initW "java/lang/String" 27 New4.yN
def tab : Cond := tabOf yN yB 2 none site
def P (a : Addr) (D : Cell) (fV fC : Field) (b : Addr) (A : Cell) (z : Int32) (args : Array Value) (s : State) : Prop := args = #[.ref a, .ref b] ∧ Blank "java/lang/String" a D s ∧ Found "java/lang/String" "value" "[B" fV s ∧ Found "java/lang/String" "coder" "B" fC s ∧ Ch b A s ∧ StaticIs s "java/lang/String" "COMPACT_STRINGS" "Z" (.int z) ∧ ¬ z = 0 ∧ 0 < A.slots.size ∧ A.slots.size ≤ 536870912 ∧ ∀ i, i < A.slots.size → ¬ 255 < cv A i
def E (a : Addr) (D : Cell) (fV fC : Field) (A : Cell) (r : Option Value) (s u : State) : Prop := Got a D fV fC A 0 A.slots.size r s u
/-- new String(chars), not empty, no char above 255: a Latin-1 String of their low bytes -/
theorem law (l : Launch) (a : Addr) (D : Cell) (fV fC : Field) (b : Addr) (A : Cell) (z : Int32) : Law l yN 2 1 3 52 yB 2 none site (P a D fV fC b A z) (E a D fV fC A) [⟨a, fC.slot⟩, ⟨a, fV.slot⟩] 1 A.slots.size := by
  refine Law.of_walk (plainFor_of_name (by decide +kernel)) (by decide +kernel) (by decide +kernel) (by decide) (fun _ _ h => by rw [h.1]; rfl) (fun _ U U' hal hh h => ⟨h.1, h.2.1.mv hal hh, h.2.2.1.al hal, h.2.2.2.1.al hal, h.2.2.2.2.1.mv hal hh, h.2.2.2.2.2.1.there hal hh, h.2.2.2.2.2.2⟩) (fun r U U' V V' h1 hal h2 h => Got.mv r U U' V V' h1 hal h2 h) ?_
  intro p e s m args below meth c s₁ X0 hexec hbytes hml hret hlk hnm hown hh0 W hP
  obtain ⟨rfl, hB, f1, f2, hA, s1, hz, l0, l2, hp⟩ := hP
  have c1 : Steps p.tables e below (s₁.setTop (entryFrame m #[.ref a, .ref b] 2)) (s₁.setTop (mkF m 0 #[.val (.ref a), .val (.ref b)] [])) := entry rfl
  have c2 : Steps p.tables e below (s₁.setTop (entryFrame m #[.ref a, .ref b] 2)) (s₁.setTop (mkF m 6 #[.val (.ref a), .val (.ref b)] [.null, .int (Int32.ofNat A.slots.size), .int 0, .ref b, .ref a])) := c1.trans (by
    refine XS.aloadN X0.here hexec rfl (hb hbytes d0) rfl rfl ?_
    refine XS.aloadN X0.here hexec rfl (hb hbytes d1) rfl rfl ?_
    refine iconstV X0.here hexec rfl 0 (hb hbytes d2) (by decide) ?_
    refine XS.aloadN X0.here hexec rfl (hb hbytes d3) rfl rfl ?_
    refine X0.alen hexec (hA.1.mv X0.warmed.alike hh0) rfl rfl (hb hbytes d4) ?_
    refine XS.aconstNull X0.here hexec rfl (hb hbytes d5) ?_
    exact Steps.refl _)
  obtain ⟨v3, T3, X3, E3, g3⟩ := X0.callN hexec (New4.law l a D fV fC b A z 0 A.slots.size) rfl hown (wks W (initW "java/lang/String" 27 New4.yN)) (W New4.tab (by simp only [site, List.mem_cons, List.mem_append, true_or, or_true])) (W := 0) (Nat.le_of_ble_eq_true rfl) (Nat.le_of_ble_eq_true rfl) (Nat.le_refl _) (by show 0 + A.slots.size ≤ A.slots.size; omega) (g := (mkF m 6 #[.val (.ref a), .val (.ref b)] [.null, .int (Int32.ofNat A.slots.size), .int (Int32.ofNat 0), .ref b, .ref a])) rfl (by rw [hml]; rfl) c2 (argsL := [.ref b, .int (Int32.ofNat 0), .int (Int32.ofNat A.slots.size), .null]) (rest := []) rfl rfl (by show 2 * 0 + 0 ≤ _; decide) (hb hbytes d6) (⟨rfl, hB.mv X0.warmed.alike hh0, f1.al X0.warmed.alike, f2.al X0.warmed.alike, hA.mv X0.warmed.alike hh0, s1.there X0.warmed.alike hh0, hz, l0, by omega, l2, fun i hi => by rw [Nat.zero_add]; exact hp i hi⟩)
  have e0 := Got.mv _ s₁ s _ _ hh0.symm (Vm.Alike.refl _) rfl E3
  obtain rfl := e0.1
  have c4 : Steps p.tables e below (s₁.setTop (entryFrame m #[.ref a, .ref b] 2)) (T3.setTop (mkF m 9 #[.val (.ref a), .val (.ref b)] [])) := g3
  exact ⟨T3, none, _, _, _, X3, by simp, rfl, by omega, (fun _ => rfl), e0, fun fs hl => c4.trans (X3.returnOut hexec hret (hb hbytes d9) hl)⟩
theorem pays {l : Launch} {R : Room} {p : Program} {e : Env} {below : List Frame} {s : State} {sargs : Array Value} {len W : Nat} (a : Addr) (D : Cell) (fV fC : Field) (b : Addr) (A : Cell) (z : Int32) (htab : tab.before sargs s = true) (hfr : 4 ≤ R.frames) (hlo : W + 65 ≤ R.locals) :
    Back l R p e below s sargs yN len W (fun A₁ a₁ => A₁.cells + 1 ≤ R.cells ∧ A₁.slots + A.slots.size ≤ R.slots ∧ P a D fV fC b A z a₁ A₁.U) (fun A₁ _ v₁ B₁ => E a D fV fC A v₁ A₁.U B₁.U ∧ B₁.locs = A₁.locs ++ [⟨a, fC.slot⟩, ⟨a, fV.slot⟩] ∧ B₁.cells = A₁.cells + 1 ∧ B₁.slots = A₁.slots + A.slots.size) :=
  (law l a D fV fC b A z).pays htab hfr (by omega)
end New1
/-- the byte, read back as charAt reads it, is the char -/
theorem lo8_mask {x : Int32} (h0 : ¬ x < 0) (h1 : ¬ 255 < x) : lo8 x &&& 255 = x := by
  have t : ∀ k : Fin 256, lo8 (Int32.ofNat k.val) &&& 255 = Int32.ofNat k.val := by decide +kernel
  rw [Int32.lt_iff_toInt_lt] at h0 h1
  have e0 : (0 : Int32).toInt = 0 := rfl
  have e1 : (255 : Int32).toInt = 255 := rfl
  obtain ⟨k, hk⟩ : ∃ k : Nat, x.toInt = k := ⟨x.toInt.toNat, by omega⟩
  have hx : x = Int32.ofNat k := Int32.toInt_inj.mp (by rw [hk, Int32.toInt_ofNat_small (by omega)])
  rw [hx]
  exact t ⟨k, by omega⟩
end StrChars
namespace StrChars.Road
open Jvm Sem ClassFile Op Lib Jvm.Stand Jvm.Free Jvm.Free.XT
open Jvm.Lib.Cold (StaticIs)
abbrev ST : String := "java/lang/String"
/-- every table word that New1's law asks, flat -/
abbrev words : List Jvm.Cond := [.code New1.yN New1.yB 2 none, .initialized ST, .methodLink ST 27 New4.yN, .instanceMethod New4.yN,
  .code New4.yN New4.yB 6 none, .fieldLink ST 38 ST "COMPACT_STRINGS" "Z", .laysFinal ST ST "value" "[B", .fieldLink ST 9 ST "value" "[B", .laysFinal ST ST "coder" "B", .fieldLink ST 15 ST "coder" "B",
  .methodLink ST 1 Lib.objectInit, .instanceMethod Lib.objectInit, .code Lib.objectInit ⟨#[0xb1]⟩ 1 none, .methodLink ST 177 Cmp3.yN, .static Cmp3.yN, .methodLink ST 47 CodL.yN, .static CodL.yN,
  .code Cmp3.yN Cmp3.yB 6 (some (.array .byte)), .initialized U16, .arrayClass .byte, .methodLink U16 115 Cmp5.yN, .static Cmp5.yN, .code Cmp5.yN Cmp5.yB 7 (some .int), .code CodL.yN CodL.yB 2 (some .byte)]
theorem tab_of {a : Array Value} {s : State} (h : ∀ w ∈ words, w.before a s = true) : New1.tab.before a s = true := by
  have h5 : Cmp5.tab.before a s = true := unparts (wk h (.code Cmp5.yN Cmp5.yB 7 (some .int))) (wks h (.initialized Cmp5.yN.cls :: Cmp5.site))
  have hc : CodL.tab.before a s = true := unparts (wk h (.code CodL.yN CodL.yB 2 (some .byte))) (wks h (.initialized CodL.yN.cls :: CodL.site))
  have q5 : ∀ w ∈ Cmp5.tab :: words, w.before a s = true := fun w hw => (List.mem_cons.mp hw).elim (fun e => e ▸ h5) (h w)
  have h3 : Cmp3.tab.before a s = true := unparts (wk q5 (.code Cmp3.yN Cmp3.yB 6 (some (.array .byte)))) (wks q5 (.initialized Cmp3.yN.cls :: Cmp3.site))
  have q3 : ∀ w ∈ Cmp3.tab :: CodL.tab :: words, w.before a s = true := fun w hw => (List.mem_cons.mp hw).elim (fun e => e ▸ h3) fun hw => (List.mem_cons.mp hw).elim (fun e => e ▸ hc) (h w)
  have h4 : New4.tab.before a s = true := unparts (wk q3 (.code New4.yN New4.yB 6 none)) (wks q3 (.initialized New4.yN.cls :: New4.site))
  have q4 : ∀ w ∈ New4.tab :: words, w.before a s = true := fun w hw => (List.mem_cons.mp hw).elim (fun e => e ▸ h4) (h w)
  exact unparts (wk q4 (.code New1.yN New1.yB 2 none)) (wks q4 (.initialized New1.yN.cls :: New1.site))
/-- the words ride from the start Z to the walk's own state -/
theorem moved {Z s : State} {a0 args : Array Value} (hZ : Z.Warmed39 s.vm) (hw : ∀ d ∈ words, d.before a0 Z = true) : ∀ d ∈ words, d.before args s = true := fun d hd => by
  have q := hw d hd
  have t : ∀ d ∈ words, d = .arrayClass .byte ∨ (d.onTables && d.keepsFace) = true := by decide +kernel
  rcases t d hd with rfl | t
  · exact RoadKit.mvA hZ q
  · exact RoadKit.mv hZ q t
/-- WHAT COMES BACK, over the tables of the start Z: h the heap at the call, h' behind it -/
def Q (Z : State) (x : Addr) (A : Cell) (h : Heap) (v : Option Value) (h' : Heap) (L : List Loc) : Prop := v = none ∧ (∀ y ∈ L, y.base = x) ∧ RoadKit.Keep h h' [x] ∧ h'.size = h.size + 1 ∧ RoadKit.Exa Z h' x ST ∧ RoadKit.Fld Z h' x ST "value" "[B" (.ref h.size) ∧ RoadKit.Fld Z h' x ST "coder" "B" (.int 0) ∧
  (∃ V : Cell, RoadKit.Arr Z h' h.size V .byte ∧ V.vm = .none ∧ Z.vm.findClass "[B" = some V.cls ∧ V.slots.size = A.slots.size ∧ ∀ j, j < A.slots.size → V.slots[j]? = some (.int (lo8 (cv A j)))) ∧
  ∀ (O n d : String) (w : Value), RoadKit.Fld Z h x O n d w → RoadKit.slotOf Z O n d ≠ RoadKit.slotOf Z ST "value" "[B" → RoadKit.slotOf Z O n d ≠ RoadKit.slotOf Z ST "coder" "B" → RoadKit.Fld Z h' x O n d w
/-- **new String(chars) AT A CALL, IN THE ROAD'S FORM**: for specialBack behind newO: x the fresh String, b the char[] with the cell A -/
theorem back {p : Program} {l : Launch} {e : Env} {R : Room} {s : State} {args : Array Value} {below : List Frame} {len W : Nat} {Z : State} {a0 : Array Value} {h : Heap} (hZ : Z.Warmed39 s.vm) (hw : ∀ d ∈ words, d.before a0 Z = true) {kI : Nat} (wi : (Jvm.Cond.instantiable ST kI).before a0 Z = true)
    {x b : Addr} {A : Cell} {z : Int32} {v0 c0 : Value} (E : RoadKit.Exa Z h x ST) (V : RoadKit.Fld Z h x ST "value" "[B" v0) (C : RoadKit.Fld Z h x ST "coder" "B" c0) (K : RoadKit.Arr Z h b A .char) (hty : Typed .char A) (S : RoadKit.Sta Z h ST "COMPACT_STRINGS" "Z" (.int z)) (hz : ¬ z = 0)
    (l0 : 0 < A.slots.size) (l2 : A.slots.size ≤ 536870912) (hp : ∀ i, i < A.slots.size → ¬ 255 < cv A i) (hfr : 4 ≤ R.frames) (hlo : W + 65 ≤ R.locals) :
    Back l R p e below s args New1.yN len W (fun P a => a = #[.ref x, .ref b] ∧ P.U.heap = h ∧ P.cells + 1 ≤ R.cells ∧ P.slots + A.slots.size ≤ R.slots)
      (fun P _ v B => ∃ L, Q Z x A h v B.U.heap L ∧ B.locs = P.locs ++ L ∧ B.cells = P.cells + 1 ∧ B.slots = P.slots + A.slots.size) := by
  intro m meth c P g ig mk a X hg hsize hdg hW hn hp'
  obtain ⟨rfl, rfl, r1, r2⟩ := hp'
  have al : Z.vm.Alike P.U.vm := hZ.alike.trans X.warmed.alike
  obtain ⟨D, cfV, kV, iV, fV, hD, gV, stV, knV, obV, asV, slV⟩ := id V
  obtain ⟨D', cfC, kC, iC, fC, hD', gC, stC, -, -, asC, slC⟩ := id C
  cases hD.symm.trans hD'
  obtain ⟨D2, kD, e1, e2, e3, e4, e5⟩ := id E
  cases hD.symm.trans e1
  obtain ⟨c2, k2, i1, i2, i3, -⟩ := Cond.instantiable_spec wi
  cases e2.symm.trans i1
  cases e3.symm.trans i2
  obtain ⟨kU, u1, u2⟩ := al.2.2 _ _ e3
  have hB : Blank ST x D P.U := ⟨hD, ⟨knV, fun q hq => by rw [hq] at obV; cases obV⟩, by rw [al.findClass]; exact e2, kU, u1, by rw [u2]; exact i3, by rw [u2]; exact e5 i3⟩
  have F1 : Found ST "value" "[B" fV P.U := ⟨SBG.found_only al ⟨cfV, kV, iV, gV⟩, stV⟩
  have F2 : Found ST "coder" "B" fC P.U := ⟨SBG.found_only al ⟨cfC, kC, iC, gC⟩, stC⟩
  have hA : Ch b A P.U := ⟨⟨K.1, State.isArrayOf_alike al K.2.1, K.2.2, by omega⟩, hty⟩
  have hS : StaticIs P.U ST "COMPACT_STRINGS" "Z" (.int z) := by
    obtain ⟨cfS, iS, kS, fS, st, cS, t1, t2, t3, t4, t5, t6, t7⟩ := S
    exact StaticIs.there (s := { Z with heap := P.U.heap }) ⟨cfS, iS, kS, fS, st, cS, t1, t2, t3, t4, t5, (fun q => by rw [q] at t6; cases t6), t7⟩ al rfl
  obtain ⟨v, B, X', ⟨⟨hv, E', V', q1, q2, q3, q4, q5, q6, q7, q8, q9, q10, q11⟩, hl, hc, hs⟩, st⟩ := New1.pays x D fV fC b A z (tab_of (moved hZ hw)) hfr hlo m meth c P g ig mk _ X hg hsize hdg hW hn ⟨r1, r2, rfl, hB, F1, F2, hA, hS, hz, l0, l2, hp⟩
  have al' : Z.vm.Alike B.U.vm := hZ.alike.trans X'.warmed.alike
  have hsz : E'.slots.size = D.slots.size := by
    obtain ⟨-, -, -, kB, w1, w2, w3⟩ := q1
    obtain ⟨kB', y1, y2⟩ := al'.2.2 _ _ e3
    rw [q2.2.1] at w1
    cases w1.symm.trans y1
    rw [w3, e5 i3, y2]
  refine ⟨v, B, X', ⟨_, ⟨hv, ?_, ⟨by omega, fun y cy hy hn' => q10 y cy (by simpa using hn') hy, fun y cy hy => ?_⟩, q11, ⟨E', _, q1.1, by rw [q2.2.1]; exact e2, by rw [q2.2.1]; exact e3, by rw [q2.1]; exact obV, fun _ => by rw [hsz]; exact e5 i3⟩,
    ⟨E', cfV, kV, iV, fV, q1.1, gV, stV, by rw [q2.1]; exact knV, by rw [q2.1]; exact obV, by rw [q2.2.1]; exact asV, q3⟩, ⟨E', cfC, kC, iC, fC, q1.1, gC, stC, by rw [q2.1]; exact knV, by rw [q2.1]; exact obV, by rw [q2.2.1]; exact asC, q4⟩,
    ⟨V', ⟨q5.1, State.isArrayOf_alike al'.symm q5.2.1, q5.2.2.1⟩, q6, by rw [← al'.findClass]; exact q7, q8, fun j hj => by have := q9 j hj; rwa [Nat.zero_add] at this⟩, fun O n d w F n1 n2 => ?_⟩, hl, hc, hs⟩, st⟩
  · intro y hy
    simp only [List.mem_cons, List.not_mem_nil, or_false] at hy
    rcases hy with rfl | rfl <;> rfl
  · by_cases q : y = x
    · subst q
      cases hD.symm.trans hy
      exact ⟨E', q1.1, q2.2.1, q2.1, hsz⟩
    · exact ⟨cy, q10 y cy q hy, rfl, rfl, rfl⟩
  · obtain ⟨D3, cf, k, i, f, g1, g2, g3, g4, g5, g6, g7⟩ := F
    cases hD.symm.trans g1
    simp only [RoadKit.slotOf, g2, gV, gC, Option.map_some, Option.getD_some] at n1 n2
    exact ⟨E', cf, k, i, f, q1.1, g2, g3, by rw [q2.1]; exact g4, by rw [q2.1]; exact g5, by rw [q2.2.1]; exact g6, by rw [q2.2.2 f.slot (by simp [n1, n2])]; exact g7⟩
end StrChars.Road
namespace StrChars.Road
open Jvm Sem ClassFile Op Lib Jvm.Stand Jvm.Free Jvm.Free.XT
/-- WHAT COMES BACK, the byte[] as a list of values -/
def QA (Z : State) (x : Addr) (zn : Int32) (cs : List Int32) (h : Heap) (v : Option Value) (h' : Heap) (L : List Loc) : Prop := v = none ∧ (∀ y ∈ L, y.base = x) ∧ RoadKit.Keep h h' [x] ∧ h'.size = h.size + 1 ∧ RoadKit.Exa Z h' x ST ∧ RoadKit.Fld Z h' x ST "value" "[B" (.ref h.size) ∧ RoadKit.Fld Z h' x ST "coder" "B" (.int 0) ∧
  (∃ kb, Z.vm.findClass "[B" = some kb ∧ RoadKit.Arv Z h' h.size kb .byte zn (cs.map fun c => .int (lo8 c)) (.int 0)) ∧
  ∀ (O n d : String) (w : Value), RoadKit.Fld Z h x O n d w → RoadKit.slotOf Z O n d ≠ RoadKit.slotOf Z ST "value" "[B" → RoadKit.slotOf Z O n d ≠ RoadKit.slotOf Z ST "coder" "B" → RoadKit.Fld Z h' x O n d w
/-- **new String(chars) AT A CALL, THE ARRAYS AS LISTS**: the char[] at b holds cs, not empty, no char above 255 -/
theorem backArv {p : Program} {l : Launch} {e : Env} {R : Room} {s : State} {args : Array Value} {below : List Frame} {len W : Nat} {Z : State} {a0 : Array Value} {h : Heap} (hZ : Z.Warmed39 s.vm) (hw : ∀ d ∈ words, d.before a0 Z = true) {kI : Nat} (wi : (Jvm.Cond.instantiable ST kI).before a0 Z = true)
    {x b : Addr} {k : ClassId} {zn z : Int32} {cs : List Int32} {dv v0 c0 : Value} (E : RoadKit.Exa Z h x ST) (V : RoadKit.Fld Z h x ST "value" "[B" v0) (C : RoadKit.Fld Z h x ST "coder" "B" c0) (K : RoadKit.Arv Z h b k .char zn (cs.map Value.int) dv) (S : RoadKit.Sta Z h ST "COMPACT_STRINGS" "Z" (.int z)) (hz : ¬ z = 0)
    (hlen : zn.toNatClampNeg = cs.length) (h0 : 0 < cs.length) (hbig : cs.length ≤ 536870912) (hall : ∀ c ∈ cs, ¬ 255 < c) (hfr : 4 ≤ R.frames) (hlo : W + 65 ≤ R.locals) :
    Back l R p e below s args New1.yN len W (fun P a => a = #[.ref x, .ref b] ∧ P.U.heap = h ∧ P.cells + 1 ≤ R.cells ∧ P.slots + cs.length ≤ R.slots)
      (fun P _ v B => ∃ L, QA Z x zn cs h v B.U.heap L ∧ B.locs = P.locs ++ L ∧ B.cells = P.cells + 1 ∧ B.slots = P.slots + cs.length) := by
  obtain ⟨A, K1, K2, K3, K4, K5, K6⟩ := K
  have e : A.slots.size = cs.length := K3.trans hlen
  have hat : ∀ (i : Nat) (hi : i < cs.length), A.slots[i]? = some (.int cs[i]) := fun i hi => by rw [K5 i (by omega)]; simp [List.getD_eq_getElem?_getD, hi]
  have hcv : ∀ (i : Nat) (hi : i < cs.length), cv A i = cs[i] := fun i hi => by unfold cv; rw [hat i hi]
  have hty : Typed .char A := fun i v hv => by
    have hi : i < A.slots.size := (Array.getElem?_eq_some_iff.mp hv).1
    have q := K5 i hi
    rw [hv] at q
    rw [Option.some.inj q]
    exact K6 i hi
  refine Back.mono (back hZ hw wi E V C K1 hty S hz (by omega) (by omega) (fun i hi => by rw [hcv i (by omega)]; exact hall _ (List.getElem_mem _)) hfr hlo) (fun P a hp => ⟨hp.1, hp.2.1, hp.2.2.1, by rw [e]; exact hp.2.2.2⟩) (fun P a v B hp hq => ?_)
  obtain ⟨L, ⟨q1, q2, q3, q4, q5, q6, q7, ⟨V', v1, v2, v3, v4, v5⟩, q9⟩, hl, hc, hs⟩ := hq
  refine ⟨L, ⟨q1, q2, q3, q4, q5, q6, q7, ⟨V'.cls, v3, V', v1, rfl, by rw [v4, e, hlen], K4, fun i hi => ?_, fun i hi => ?_⟩, q9⟩, hl, hc, by rw [hs, e]⟩
  · have hi' : i < cs.length := by omega
    rw [v5 i (by omega), hcv i hi']; simp [List.getD_eq_getElem?_getD, hi']
  · have hi' : i < cs.length := by omega
    simp only [List.getD_eq_getElem?_getD, List.getElem?_map, List.getElem?_eq_getElem hi', Option.map_some, Option.getD_some]
    exact fits_lo8 _
end StrChars.Road
namespace StrChars.Road
open Jvm Sem ClassFile Op Lib Jvm.Stand Jvm.Free Jvm.Free.XT
/-- WHAT COMES BACK, in the writer's own shape -/
def QV (Z : State) (x : Addr) (N : Int32) (bs : List Int32) (h : Heap) (n0 : Nat) (v : Option Value) (h' : Heap) (L : List Loc) : Prop := v = none ∧ RoadKit.Fr n0 L ∧ RoadKit.Keep h h' [x] ∧ RoadKit.Exa Z h' x ST ∧ RoadKit.Fld Z h' x ST "coder" "B" (.int 0) ∧
  ∃ (t : Addr) (kb : ClassId), n0 ≤ t ∧ h.size ≤ t ∧ ¬ t = x ∧ RoadKit.Fld Z h' x ST "value" "[B" (.ref t) ∧ RoadKit.Arv Z h' t kb .byte N (bs.map Value.int) (.int 0)
/-- **new String(chars) AT A CALL, FOR THE WRITER**: a char[] of n known ints, each 0 to 255 -/
theorem backV {p : Program} {l : Launch} {e : Env} {R : Room} {s : State} {args : Array Value} {below : List Frame} {len W : Nat} {Z : State} {a0 : Array Value} {h : Heap} (hZ : Z.Warmed39 s.vm) (hw : ∀ d ∈ words, d.before a0 Z = true) {kI : Nat} (wi : (Jvm.Cond.instantiable ST kI).before a0 Z = true)
    {x b : Addr} {kC : ClassId} {cs bs : List Int32} {d v0 c0 : Value} {z N : Int32} {n n0 : Nat} (hx0 : n0 ≤ x) (hh0 : n0 ≤ h.size) (E : RoadKit.Exa Z h x ST) (V : RoadKit.Fld Z h x ST "value" "[B" v0) (C : RoadKit.Fld Z h x ST "coder" "B" c0) (K : RoadKit.Arv Z h b kC .char N (cs.map Value.int) d) (S : RoadKit.Sta Z h ST "COMPACT_STRINGS" "Z" (.int z)) (hz : ¬ z = 0)
    (hn : cs.length = n) (hN : N = Int32.ofNat n) (l0 : 0 < n) (l2 : n ≤ 4000) (hp : ∀ c ∈ cs, ¬ c < 0 ∧ ¬ (255 : Int32) < c) (hb : bs = cs.map (fun c => c.toInt8.toInt32)) (hfr : 4 ≤ R.frames) (hlo : W + 65 ≤ R.locals) :
    Back l R p e below s args (⟨"java/lang/String", "<init>", "([C)V"⟩ : MethodName) len W (fun P a => a = #[.ref x, .ref b] ∧ P.U.heap = h ∧ P.cells + 1 ≤ R.cells ∧ P.slots + n ≤ R.slots)
      (fun P _ v B => ∃ L, QV Z x N bs h n0 v B.U.heap L ∧ B.locs = P.locs ++ L ∧ B.cells = P.cells + 1 ∧ B.slots = P.slots + n) := by
  subst hn hN hb
  refine Back.mono (backArv hZ hw wi E V C K S hz (n32 (by omega)) l0 (by omega) (fun c hc => (hp c hc).2) hfr hlo) (fun P a hp => hp) (fun P a v B hp hq => ?_)
  obtain ⟨L, ⟨q1, q2, q3, q4, q5, q6, q7, ⟨kb, v1, v2⟩, q9⟩, hl, hc, hs⟩ := hq
  exact ⟨L, ⟨q1, fun y hy => by rw [q2 y hy]; exact hx0, q3, q5, q7, h.size, kb, hh0, Nat.le_refl _, Nat.ne_of_gt E.lt, q6, by rw [List.map_map]; exact v2⟩, hl, hc, hs⟩
end StrChars.Road
namespace StrChars
open Jvm Sem ClassFile Op Lib Jvm.Stand Jvm.Free.XT Jvm.Free.ALB Jvm.Free.JM Jvm.Free
open Jvm.Lib.Cold (StaticIs)
def hi8 (x : Int32) : Int32 := lo8 (x >>> ((8 : Int32) &&& 31))
/-- what StringUTF16.getChar makes of two bytes -/
def pairCh (u v : Int32) : Int32 := (((u &&& 255) <<< ((0 : Int32) &&& 31)) ||| ((v &&& 255) <<< ((8 : Int32) &&& 31))).toUInt32.toUInt16.toUInt32.toInt32
theorem shr0 (c : Int32) : c >>> ((0 : Int32) &&& 31) = c := by
  have e : ((0 : Int32) &&& 31) = 0 := by decide
  rw [e]
  apply Int32.toBitVec_inj.mp
  rw [Int32.toBitVec_shiftRight]
  have e1 : ((0 : Int32).toBitVec.smod 32) = 0#32 := by decide
  rw [e1, BitVec.sshiftRight_eq']
  exact BitVec.sshiftRight_zero
theorem lo8_and (x : Int32) : (lo8 x &&& 255).toBitVec.toNat = x.toBitVec.toNat % 256 := by
  have h : (lo8 x).toBitVec = (x.toBitVec.signExtend 8).signExtend 32 := by rw [lo8, Int8.toBitVec_toInt32, Int32.toBitVec_toInt8]
  rw [Int32.toBitVec_and, BitVec.toNat_and, h]
  have e : ((x.toBitVec.signExtend 8).signExtend 32).toNat % 256 = x.toBitVec.toNat % 256 := by
    rw [BitVec.toNat_signExtend]
    have hlt := x.toBitVec.isLt
    simp only [BitVec.toNat_setWidth, BitVec.toNat_signExtend]
    split <;> split <;> omega
  rw [← e]
  exact Nat.and_two_pow_sub_one_eq_mod _ 8
theorem pair_says {c : Int32} (h0 : ¬ c < 0) (h1 : ¬ 65535 < c) : pairCh (lo8 c) (hi8 c) = c := by
  rw [Int32.lt_iff_toInt_lt] at h0 h1
  have e0 : (0 : Int32).toInt = 0 := rfl
  have e1 : (65535 : Int32).toInt = 65535 := rfl
  have hc : c.toInt = c.toBitVec.toNat := by
    have := c.toBitVec.isLt
    have e : c.toInt = c.toBitVec.toInt := rfl
    rw [e] at h0 h1
    rw [e]
    rw [BitVec.toInt_eq_toNat_cond] at h0 h1 ⊢
    split at h0 <;> split <;> omega
  have hn : c.toBitVec.toNat < 65536 := by omega
  have a1 := lo8_and c
  have a2 : (hi8 c &&& 255).toBitVec.toNat = c.toBitVec.toNat / 256 := by
    rw [hi8, lo8_and]
    have e : ((8 : Int32) &&& 31) = 8 := by decide
    rw [e, Int32.toBitVec_shiftRight]
    have e2 : ((8 : Int32).toBitVec.smod 32) = 8#32 := by decide
    rw [e2, BitVec.sshiftRight_eq', BitVec.toNat_sshiftRight_of_msb_false (by rw [BitVec.msb_eq_false_iff_two_mul_lt]; omega)]
    show c.toBitVec.toNat >>> 8 % 256 = _
    rw [Nat.shiftRight_eq_div_pow]
    omega
  unfold pairCh
  apply Int32.toBitVec_inj.mp
  apply BitVec.eq_of_toNat_eq
  have f0 : ((0 : Int32) &&& 31) = 0 := by decide
  have f8 : ((8 : Int32) &&& 31) = 8 := by decide
  rw [f0, f8]
  have g : (((lo8 c &&& 255) <<< (0 : Int32)) ||| ((hi8 c &&& 255) <<< (8 : Int32))).toBitVec.toNat = c.toBitVec.toNat := by
    rw [Int32.toBitVec_or, Int32.toBitVec_shiftLeft, Int32.toBitVec_shiftLeft]
    have s0 : ((0 : Int32).toBitVec.smod 32) = 0#32 := by decide
    have s8 : ((8 : Int32).toBitVec.smod 32) = 8#32 := by decide
    rw [s0, s8, BitVec.toNat_or]
    simp only [BitVec.shiftLeft_eq', BitVec.toNat_shiftLeft, a1, a2]
    show (c.toBitVec.toNat % 256) <<< 0 % 2 ^ 32 ||| (c.toBitVec.toNat / 256) <<< 8 % 2 ^ 32 = _
    rw [Nat.shiftLeft_zero, Nat.mod_eq_of_lt (show c.toBitVec.toNat % 256 < 2 ^ 32 by omega), Nat.mod_eq_of_lt (show (c.toBitVec.toNat / 256) <<< 8 < 2 ^ 32 by rw [Nat.shiftLeft_eq]; omega), Nat.or_comm, ← Nat.shiftLeft_add_eq_or_of_lt (by omega), Nat.shiftLeft_eq]
    omega
  show BitVec.toNat (((((lo8 c &&& 255) <<< (0 : Int32)) ||| ((hi8 c &&& 255) <<< (8 : Int32))).toBitVec.setWidth 16).setWidth 32) = _
  rw [BitVec.toNat_setWidth, BitVec.toNat_setWidth, g]
  omega
end StrChars
namespace StrChars
open Jvm Sem ClassFile Op Lib Jvm.Stand Jvm.Free.XT Jvm.Free.ALB Jvm.Free.JM Jvm.Free
open Jvm.Lib.Cold (StaticIs)
theorem shr1 {n : Nat} (h : 2 * n < 2 ^ 31) : Int32.ofNat (2 * n) >>> ((1 : Int32) &&& 31) = Int32.ofNat n := by
  have e : ((1 : Int32) &&& 31) = 1 := by decide
  rw [e]
  apply Int32.toBitVec_inj.mp
  rw [Int32.toBitVec_shiftRight]
  have e1 : ((1 : Int32).toBitVec.smod 32) = 1#32 := by decide
  have hm : (BitVec.ofNat 32 (2 * n)).toNat = 2 * n := by rw [BitVec.toNat_ofNat, Nat.mod_eq_of_lt (by omega)]
  rw [e1, BitVec.sshiftRight_eq']
  apply BitVec.eq_of_toNat_eq
  show ((BitVec.ofNat 32 (2 * n)).sshiftRight 1).toNat = (BitVec.ofNat 32 n).toNat
  rw [BitVec.toNat_sshiftRight_of_msb_false (by rw [BitVec.msb_eq_false_iff_two_mul_lt, hm]; omega), hm, BitVec.toNat_ofNat, Nat.shiftRight_eq_div_pow]
  omega
/-- charAt's cast of a byte read back -/
def chr8 (u : Int32) : Int32 := (u &&& 255).toUInt32.toUInt16.toUInt32.toInt32
theorem chr8_lo8 {c : Int32} (h0 : ¬ c < 0) (h1 : ¬ 255 < c) : chr8 (lo8 c) = c := by
  have t : ∀ k : Fin 256, (Int32.ofNat k.val).toUInt32.toUInt16.toUInt32.toInt32 = Int32.ofNat k.val := by decide +kernel
  unfold chr8
  rw [lo8_mask h0 h1]
  rw [Int32.lt_iff_toInt_lt] at h0 h1
  have e0 : (0 : Int32).toInt = 0 := rfl
  have e1 : (255 : Int32).toInt = 255 := rfl
  obtain ⟨k, hk⟩ : ∃ k : Nat, c.toInt = k := ⟨c.toInt.toNat, by omega⟩
  have hx : c = Int32.ofNat k := Int32.toInt_inj.mp (by rw [hk, Int32.toInt_ofNat_small (by omega)])
  rw [hx]
  exact t ⟨k, by omega⟩
theorem narrow_ch {c : Int32} (h0 : ¬ c < 0) (h1 : ¬ 65535 < c) : narrow .char (.int c) = .int c := by
  have q : narrow .char (.int (pairCh (lo8 c) (hi8 c))) = .int (pairCh (lo8 c) (hi8 c)) := narrow_c _
  rwa [pair_says h0 h1] at q
/-- the array's cell V codes the n chars f 0 .. f (n - 1) by the coder cd, as the JDK does: coder 1 just where some char is above 255 -/
def Cod (cd : Int32) (n : Nat) (f : Nat → Int32) (V : Cell) : Prop := (cd = 0 ∧ V.slots.size = n ∧ ∀ j, j < n → V.slots[j]? = some (.int (lo8 (f j))) ∧ ¬ 255 < f j) ∨ (cd = 1 ∧ V.slots.size = 2 * n ∧ (∀ j, j < n → V.slots[2 * j]? = some (.int (lo8 (f j))) ∧ V.slots[2 * j + 1]? = some (.int (hi8 (f j)))) ∧ ∃ j, j < n ∧ 255 < f j)
theorem Cod.cd {cd : Int32} {n : Nat} {f : Nat → Int32} {V : Cell} (h : Cod cd n f V) : cd = 0 ∨ cd = 1 := h.imp (fun q => q.1) fun q => q.1
theorem Cod.len {cd : Int32} {n : Nat} {f : Nat → Int32} {V : Cell} (h : Cod cd n f V) (hs : V.slots.size < 2 ^ 31) : Int32.ofNat V.slots.size >>> (cd &&& 31) = Int32.ofNat n := by
  rcases h with ⟨rfl, h, -⟩ | ⟨rfl, h, -⟩
  · rw [shr0, h]
  · rw [h, shr1 (by omega)]
/-- **x is a String of the n chars f 0 .. f (n - 1)**, Latin-1 or UTF-16; its array at t has the cell V -/
def Txt (x t : Addr) (V : Cell) (cd : Int32) (n : Nat) (f : Nat → Int32) (U : State) : Prop := Exact "java/lang/String" x U ∧ Has x "java/lang/String" "value" "[B" (.ref t) U ∧ Has x "java/lang/String" "coder" "B" (.int cd) U ∧ XT.Arr .byte t V U ∧ Cod cd n f V ∧ ∀ j, j < n → ¬ f j < 0 ∧ ¬ 65535 < f j
theorem Txt.mv {x t : Addr} {V : Cell} {cd : Int32} {n : Nat} {f : Nat → Int32} {U U' : State} (h : Txt x t V cd n f U) (hal : U.vm.Alike U'.vm) (hh : U'.heap = U.heap) : Txt x t V cd n f U' := ⟨h.1.mv hal hh, h.2.1.mv hal hh, h.2.2.1.mv hal hh, h.2.2.2.1.mv hal hh, h.2.2.2.2⟩
namespace Cdr
def yN : MethodName := ⟨"java/lang/String", "coder", "()B"⟩
abbrev yB : ByteArray := jdk_42_method_152_code
theorem d0 : decode yB 0 = .ok (.getstatic 38, 3) := by decide +kernel
theorem d3 : decode yB 3 = .ok (.ifCond (.eq) 10, 3) := by decide +kernel
theorem d6 : decode yB 6 = .ok (.aload_n 0, 1) := by decide +kernel
theorem d7 : decode yB 7 = .ok (.getfield 15, 3) := by decide +kernel
theorem d10 : decode yB 10 = .ok (.goto 4, 3) := by decide +kernel
theorem d14 : decode yB 14 = .ok (.ireturn, 1) := by decide +kernel
def site : List Cond := [.fieldLink "java/lang/String" 38 "java/lang/String" "COMPACT_STRINGS" "Z", .fieldLink "java/lang/String" 15 "java/lang/String" "coder" "B"]
def tab : Cond := tabOf yN yB 1 (some .byte) site
def P (x : Addr) (cd z : Int32) (args : Array Value) (s : State) : Prop := args = #[.ref x] ∧ Has x "java/lang/String" "coder" "B" (.int cd) s ∧ (cd = 0 ∨ cd = 1) ∧ StaticIs s "java/lang/String" "COMPACT_STRINGS" "Z" (.int z) ∧ ¬ z = 0
def E (cd : Int32) (r : Option Value) (s u : State) : Prop := XT.PureE (some (.int cd)) r s u
theorem law (l : Launch) (x : Addr) (cd z : Int32) : Law l yN 1 0 0 0 yB 1 (some .byte) site (P x cd z) (E cd) [] 0 0 := by
  refine Law.of_walk (plainFor_of_name (by decide +kernel)) (by decide +kernel) (by decide +kernel) (by decide) (fun _ _ h => by rw [h.1]; rfl) (fun _ U U' hal hh h => ⟨h.1, h.2.1.mv hal hh, h.2.2.1, h.2.2.2.1.there hal hh, h.2.2.2.2⟩) (fun r U U' V V' h1 hal h2 h => XT.PureE.mv r U U' V V' h1 hal h2 h) ?_
  intro p e s m args below meth c s₁ X0 hexec hbytes hml hret hlk hnm hown hh0 W hP
  obtain ⟨rfl, hx, hc, s1, hz⟩ := hP
  have c1 : Steps p.tables e below (s₁.setTop (entryFrame m #[.ref x] 1)) (s₁.setTop (mkF m 0 #[.val (.ref x)] [])) := entry rfl
  obtain ⟨T2, X2, q2, st2⟩ := X0.sget hexec hown (wk W (.fieldLink "java/lang/String" 38 "java/lang/String" "COMPACT_STRINGS" "Z")) s1 (fun _ _ h => by rw [hh0]; exact h) (g := (mkF m 0 #[.val (.ref x)] [])) rfl (hb hbytes d0)
  have hh2 := q2.trans hh0
  have c3 : Steps p.tables e below (s₁.setTop (entryFrame m #[.ref x] 1)) (T2.setTop (mkF m 7 #[.val (.ref x)] [.ref x])) := (c1.trans (st2 _ (Steps.refl _))).trans (by
    refine XS.ifNo X2.here hexec rfl (hb hbytes d3) rfl (i0_eq_f hz) ?_
    refine XS.aloadN X2.here hexec rfl (hb hbytes d6) rfl rfl ?_
    exact Steps.refl _)
  obtain ⟨T4, X4, q4, st4⟩ := X2.hget hexec hown (wk W (.fieldLink "java/lang/String" 15 "java/lang/String" "coder" "B")) (hx.mv X2.warmed.alike hh2) (g := (mkF m 7 #[.val (.ref x)] [.ref x])) rfl (rest := []) rfl (hb hbytes d7)
  have c5 : Steps p.tables e below (s₁.setTop (entryFrame m #[.ref x] 1)) (T4.setTop (mkF m 14 #[.val (.ref x)] [.int cd])) := (c3.trans (st4 _ (Steps.refl _))).trans (by
    refine XS.goto X4.here hexec rfl (pc0 := 10) rfl (hb hbytes d10) (by decide) rfl ?_
    exact Steps.refl _)
  exact ⟨T4, some (.int cd), _, _, _, X4, rfl, rfl, rfl, (fun h => by cases h), ⟨rfl, q4.trans hh2⟩, fun fs hl => c5.trans (X4.ireturnOut hexec hret (by rcases hc with rfl | rfl <;> rfl) (Or.inr (Or.inr (Or.inl rfl))) (hb hbytes d14) hl)⟩
end Cdr
namespace Len
def yN : MethodName := ⟨"java/lang/String", "length", "()I"⟩
abbrev yB : ByteArray := jdk_42_method_54_code
theorem d0 : decode yB 0 = .ok (.aload_n 0, 1) := by decide +kernel
theorem d1 : decode yB 1 = .ok (.getfield 9, 3) := by decide +kernel
theorem d4 : decode yB 4 = .ok (.arraylength, 1) := by decide +kernel
theorem d5 : decode yB 5 = .ok (.aload_n 0, 1) := by decide +kernel
theorem d6 : decode yB 6 = .ok (.invokevirtual 335, 3) := by decide +kernel
theorem d9 : decode yB 9 = .ok (.ishr, 1) := by decide +kernel
theorem d10 : decode yB 10 = .ok (.ireturn, 1) := by decide +kernel
def site : List Cond := [.fieldLink "java/lang/String" 9 "java/lang/String" "value" "[B", Cdr.tab] ++ virtW "java/lang/String" 335 "java/lang/String" Cdr.yN Cdr.yN
def tab : Cond := tabOf yN yB 1 (some .int) site
def P (x t : Addr) (V : Cell) (cd : Int32) (n : Nat) (f : Nat → Int32) (z : Int32) (args : Array Value) (s : State) : Prop := args = #[.ref x] ∧ Txt x t V cd n f s ∧ StaticIs s "java/lang/String" "COMPACT_STRINGS" "Z" (.int z) ∧ ¬ z = 0
def E (n : Nat) (r : Option Value) (s u : State) : Prop := XT.PureE (some (.int (Int32.ofNat n))) r s u
/-- length() of a String of n chars, in either coding -/
theorem law (l : Launch) (x t : Addr) (V : Cell) (cd : Int32) (n : Nat) (f : Nat → Int32) (z : Int32) : Law l yN 1 0 1 13 yB 1 (some .int) site (P x t V cd n f z) (E n) [] 0 0 := by
  refine Law.of_walk (plainFor_of_name (by decide +kernel)) (by decide +kernel) (by decide +kernel) (by decide) (fun _ _ h => by rw [h.1]; rfl) (fun _ U U' hal hh h => ⟨h.1, h.2.1.mv hal hh, h.2.2.1.there hal hh, h.2.2.2⟩) (fun r U U' V V' h1 hal h2 h => XT.PureE.mv r U U' V V' h1 hal h2 h) ?_
  intro p e s m args below meth c s₁ X0 hexec hbytes hml hret hlk hnm hown hh0 W hP
  obtain ⟨rfl, hx, s1, hz⟩ := hP
  have v31 := hx.2.2.2.1.2.2.2
  have c1 : Steps p.tables e below (s₁.setTop (entryFrame m #[.ref x] 1)) (s₁.setTop (mkF m 1 #[.val (.ref x)] [.ref x])) := Steps.trans (entry rfl) (by
    show Steps p.tables e below (s₁.setTop (mkF m 0 #[.val (.ref x)] [])) _
    refine XS.aloadN X0.here hexec rfl (hb hbytes d0) rfl rfl ?_
    exact Steps.refl _)
  obtain ⟨T2, X2, q2, st2⟩ := X0.hget hexec hown (wk W (.fieldLink "java/lang/String" 9 "java/lang/String" "value" "[B")) (hx.mv X0.warmed.alike hh0).2.1 (g := (mkF m 1 #[.val (.ref x)] [.ref x])) rfl (rest := []) rfl (hb hbytes d1)
  have hh2 := q2.trans hh0
  have hx2 := hx.mv X2.warmed.alike hh2
  have c3 : Steps p.tables e below (s₁.setTop (entryFrame m #[.ref x] 1)) (T2.setTop (mkF m 6 #[.val (.ref x)] [.ref x, .int (Int32.ofNat V.slots.size)])) := (c1.trans (st2 _ (Steps.refl _))).trans (by
    refine X2.alen hexec hx2.2.2.2.1 rfl rfl (hb hbytes d4) ?_
    refine XS.aloadN X2.here hexec rfl (hb hbytes d5) rfl rfl ?_
    exact Steps.refl _)
  obtain ⟨v4, T4, X4, E4, g4⟩ := X2.callV hexec (Cdr.law l x cd z) hown (wks W (virtW "java/lang/String" 335 "java/lang/String" Cdr.yN Cdr.yN)) rfl (by decide) (wk W Cdr.tab) (W := 1) (Nat.le_of_ble_eq_true rfl) (Nat.le_of_ble_eq_true rfl) (Nat.le_refl _) (Nat.le_refl _) (hx2.1.fc X2.warmed.alike) hx2.1.is (g := (mkF m 6 #[.val (.ref x)] [.ref x, .int (Int32.ofNat V.slots.size)])) rfl (by rw [hml]; rfl) c3 (argsL := []) (rest := [.int (Int32.ofNat V.slots.size)]) rfl rfl (by show 2 * 0 + (1 + 0) ≤ _; decide) (hb hbytes d6) (⟨rfl, hx2.2.2.1, hx.2.2.2.2.1.cd, s1.there X2.warmed.alike hh2, hz⟩)
  obtain ⟨rfl, q4⟩ := E4
  have c5 : Steps p.tables e below (s₁.setTop (entryFrame m #[.ref x] 1)) (T4.setTop (mkF m 10 #[.val (.ref x)] [.int (Int32.ofNat V.slots.size >>> (cd &&& 31))])) := Steps.trans g4 (by
    refine ishr X4.here hexec rfl (hb hbytes d9) rfl ?_
    exact Steps.refl _)
  rw [hx.2.2.2.2.1.len v31] at c5
  exact ⟨T4, some (.int (Int32.ofNat n)), _, _, _, X4, rfl, rfl, rfl, (fun h => by cases h), ⟨rfl, q4.trans hh2⟩, fun fs hl => c5.trans (X4.ireturnOut hexec hret rfl (Or.inl rfl) (hb hbytes d10) hl)⟩
theorem pays {l : Launch} {R : Room} {p : Program} {e : Env} {below : List Frame} {s : State} {sargs : Array Value} {len W : Nat} (x t : Addr) (V : Cell) (cd : Int32) (n : Nat) (f : Nat → Int32) (z : Int32) (htab : tab.before sargs s = true) (hfr : 2 ≤ R.frames) (hlo : W + 25 ≤ R.locals) :
    Back l R p e below s sargs yN len W (fun A₁ a₁ => A₁.cells + 0 ≤ R.cells ∧ A₁.slots + 0 ≤ R.slots ∧ P x t V cd n f z a₁ A₁.U) (fun A₁ _ v₁ B₁ => E n v₁ A₁.U B₁.U ∧ B₁.locs = A₁.locs ++ [] ∧ B₁.cells = A₁.cells + 0 ∧ B₁.slots = A₁.slots + 0) :=
  (law l x t V cd n f z).pays htab hfr (by omega)
end Len
namespace IsL
def yN : MethodName := ⟨"java/lang/String", "isLatin1", "()Z"⟩
abbrev yB : ByteArray := jdk_42_method_154_code
theorem d0 : decode yB 0 = .ok (.getstatic 38, 3) := by decide +kernel
theorem d3 : decode yB 3 = .ok (.ifCond (.eq) 14, 3) := by decide +kernel
theorem d6 : decode yB 6 = .ok (.aload_n 0, 1) := by decide +kernel
theorem d7 : decode yB 7 = .ok (.getfield 15, 3) := by decide +kernel
theorem d10 : decode yB 10 = .ok (.ifCond (.ne) 7, 3) := by decide +kernel
theorem d13 : decode yB 13 = .ok (.iconst 1, 1) := by decide +kernel
theorem d14 : decode yB 14 = .ok (.goto 4, 3) := by decide +kernel
theorem d17 : decode yB 17 = .ok (.iconst 0, 1) := by decide +kernel
theorem d18 : decode yB 18 = .ok (.ireturn, 1) := by decide +kernel
def site : List Cond := [.fieldLink "java/lang/String" 38 "java/lang/String" "COMPACT_STRINGS" "Z", .fieldLink "java/lang/String" 15 "java/lang/String" "coder" "B"]
def tab : Cond := tabOf yN yB 1 (some .boolean) site
def P (x : Addr) (cd z : Int32) (args : Array Value) (s : State) : Prop := args = #[.ref x] ∧ Has x "java/lang/String" "coder" "B" (.int cd) s ∧ (cd = 0 ∨ cd = 1) ∧ StaticIs s "java/lang/String" "COMPACT_STRINGS" "Z" (.int z) ∧ ¬ z = 0
def E (cd : Int32) (r : Option Value) (s u : State) : Prop := XT.PureE (some (.int (1 - cd))) r s u
theorem law (l : Launch) (x : Addr) (cd z : Int32) : Law l yN 1 0 0 0 yB 1 (some .boolean) site (P x cd z) (E cd) [] 0 0 := by
  refine Law.of_walk (plainFor_of_name (by decide +kernel)) (by decide +kernel) (by decide +kernel) (by decide) (fun _ _ h => by rw [h.1]; rfl) (fun _ U U' hal hh h => ⟨h.1, h.2.1.mv hal hh, h.2.2.1, h.2.2.2.1.there hal hh, h.2.2.2.2⟩) (fun r U U' V V' h1 hal h2 h => XT.PureE.mv r U U' V V' h1 hal h2 h) ?_
  intro p e s m args below meth c s₁ X0 hexec hbytes hml hret hlk hnm hown hh0 W hP
  obtain ⟨rfl, hx, hc, s1, hz⟩ := hP
  have c1 : Steps p.tables e below (s₁.setTop (entryFrame m #[.ref x] 1)) (s₁.setTop (mkF m 0 #[.val (.ref x)] [])) := entry rfl
  obtain ⟨T2, X2, q2, st2⟩ := X0.sget hexec hown (wk W (.fieldLink "java/lang/String" 38 "java/lang/String" "COMPACT_STRINGS" "Z")) s1 (fun _ _ h => by rw [hh0]; exact h) (g := (mkF m 0 #[.val (.ref x)] [])) rfl (hb hbytes d0)
  have hh2 := q2.trans hh0
  have c3 : Steps p.tables e below (s₁.setTop (entryFrame m #[.ref x] 1)) (T2.setTop (mkF m 7 #[.val (.ref x)] [.ref x])) := (c1.trans (st2 _ (Steps.refl _))).trans (by
    refine XS.ifNo X2.here hexec rfl (hb hbytes d3) rfl (i0_eq_f hz) ?_
    refine XS.aloadN X2.here hexec rfl (hb hbytes d6) rfl rfl ?_
    exact Steps.refl _)
  obtain ⟨T4, X4, q4, st4⟩ := X2.hget hexec hown (wk W (.fieldLink "java/lang/String" 15 "java/lang/String" "coder" "B")) (hx.mv X2.warmed.alike hh2) (g := (mkF m 7 #[.val (.ref x)] [.ref x])) rfl (rest := []) rfl (hb hbytes d7)
  have c5 : Steps p.tables e below (s₁.setTop (entryFrame m #[.ref x] 1)) (T4.setTop (mkF m 10 #[.val (.ref x)] [.int cd])) := c3.trans (st4 _ (Steps.refl _))
  have c6 : Steps p.tables e below (s₁.setTop (entryFrame m #[.ref x] 1)) (T4.setTop (mkF m 18 #[.val (.ref x)] [.int (1 - cd)])) := by
    rcases hc with rfl | rfl
    · exact c5.trans (by
        refine XS.ifNo X4.here hexec rfl (hb hbytes d10) rfl (i0_ne_f rfl) ?_
        refine iconstV X4.here hexec rfl 1 (hb hbytes d13) (by decide) ?_
        refine XS.goto X4.here hexec rfl (pc0 := 14) rfl (hb hbytes d14) (by decide) rfl ?_
        exact Steps.refl _)
    · exact c5.trans (by
        refine XS.ifYes X4.here hexec rfl (pc0 := 10) rfl (hb hbytes d10) rfl (i0_ne_t (by decide)) (by decide) rfl ?_
        refine iconstV X4.here hexec rfl 0 (hb hbytes d17) (by decide) ?_
        exact Steps.refl _)
  exact ⟨T4, some (.int (1 - cd)), _, _, _, X4, rfl, rfl, rfl, (fun h => by cases h), ⟨rfl, q4.trans hh2⟩, fun fs hl => c6.trans (X4.ireturnOut hexec hret (by rcases hc with rfl | rfl <;> rfl) (Or.inr (Or.inl rfl)) (hb hbytes d18) hl)⟩
end IsL
namespace LChA
def yN : MethodName := ⟨"java/lang/StringLatin1", "charAt", "([BI)C"⟩
abbrev yB : ByteArray := jdk_43_method_2_code
theorem d0 : decode yB 0 = .ok (.iload_n 1, 1) := by decide +kernel
theorem d1 : decode yB 1 = .ok (.aload_n 0, 1) := by decide +kernel
theorem d2 : decode yB 2 = .ok (.arraylength, 1) := by decide +kernel
theorem d3 : decode yB 3 = .ok (.invokestatic 9, 3) := by decide +kernel
theorem d6 : decode yB 6 = .ok (.aload_n 0, 1) := by decide +kernel
theorem d7 : decode yB 7 = .ok (.iload_n 1, 1) := by decide +kernel
theorem d8 : decode yB 8 = .ok (.baload, 1) := by decide +kernel
theorem d9 : decode yB 9 = .ok (.sipush 255, 3) := by decide +kernel
theorem d12 : decode yB 12 = .ok (.iand, 1) := by decide +kernel
theorem d13 : decode yB 13 = .ok (.i2c, 1) := by decide +kernel
theorem d14 : decode yB 14 = .ok (.ireturn, 1) := by decide +kernel
def site : List Cond := [JO.Str_checkIndex.tab] ++ staticW "java/lang/StringLatin1" 9 JO.Str_checkIndex.yN
def tab : Cond := tabOf yN yB 2 (some .char) site
def P (t : Addr) (V : Cell) (i : Nat) (u : Int32) (fm : Value) (args : Array Value) (s : State) : Prop := args = #[.ref t, .int (Int32.ofNat i)] ∧ XT.Arr .byte t V s ∧ V.slots[i]? = some (.int u) ∧ (StaticIs s "jdk/internal/util/Preconditions" "SIOOBE_FORMATTER" "Ljava/util/function/BiFunction;" fm ∧ fm.isRef = true)
def E (u : Int32) (r : Option Value) (s w : State) : Prop := XT.PureE (some (.int (chr8 u))) r s w
theorem law (l : Launch) (t : Addr) (V : Cell) (i : Nat) (u : Int32) (fm : Value) : Law l yN 2 2 2 27 yB 2 (some .char) site (P t V i u fm) (E u) [] 0 0 := by
  refine Law.of_walk (plainFor_of_name (by decide +kernel)) (by decide +kernel) (by decide +kernel) (by decide) (fun _ _ h => by rw [h.1]; rfl) (fun _ U U' hal hh h => ⟨h.1, h.2.1.mv hal hh, h.2.2.1, h.2.2.2.1.there hal hh, h.2.2.2.2⟩) (fun r U U' V V' h1 hal h2 h => XT.PureE.mv r U U' V V' h1 hal h2 h) ?_
  intro p e s m args below meth c s₁ X0 hexec hbytes hml hret hlk hnm hown hh0 W hP
  obtain ⟨rfl, hV, hu, s1, rf⟩ := hP
  have v31 := hV.2.2.2
  have hi : i < V.slots.size := (Array.getElem?_eq_some_iff.mp hu).1
  have c1 : Steps p.tables e below (s₁.setTop (entryFrame m #[.ref t, .int (Int32.ofNat i)] 2)) (s₁.setTop (mkF m 0 #[.val (.ref t), .val (.int (Int32.ofNat i))] [])) := entry rfl
  have c2 : Steps p.tables e below (s₁.setTop (entryFrame m #[.ref t, .int (Int32.ofNat i)] 2)) (s₁.setTop (mkF m 3 #[.val (.ref t), .val (.int (Int32.ofNat i))] [.int (Int32.ofNat V.slots.size), .int (Int32.ofNat i)])) := c1.trans (by
    refine XS.iloadN X0.here hexec rfl (hb hbytes d0) rfl ?_
    refine XS.aloadN X0.here hexec rfl (hb hbytes d1) rfl rfl ?_
    refine X0.alen hexec (hV.mv X0.warmed.alike hh0) rfl rfl (hb hbytes d2) ?_
    exact Steps.refl _)
  obtain ⟨v3, T3, X3, E3, g3⟩ := X0.callS hexec (JO.Str_checkIndex.law l (Int32.ofNat i) (Int32.ofNat V.slots.size) fm) hown (wks W (staticW "java/lang/StringLatin1" 9 JO.Str_checkIndex.yN)) (wk W JO.Str_checkIndex.tab) (W := 0) (Nat.le_of_ble_eq_true rfl) (Nat.le_of_ble_eq_true rfl) (Nat.le_refl _) (Nat.le_refl _) (g := (mkF m 3 #[.val (.ref t), .val (.int (Int32.ofNat i))] [.int (Int32.ofNat V.slots.size), .int (Int32.ofNat i)])) rfl (by rw [hml]; rfl) c2 (argsL := [.int (Int32.ofNat i), .int (Int32.ofNat V.slots.size)]) (rest := []) rfl rfl (by show 2 * 0 + 0 ≤ _; decide) (hb hbytes d3) (⟨rfl, rf, s1.there X0.warmed.alike hh0, Int32.ofNat_not_neg (by omega), lt32 v31 hi⟩)
  obtain ⟨rfl, q3⟩ := E3
  have hh3 := q3.trans hh0
  have c4 : Steps p.tables e below (s₁.setTop (entryFrame m #[.ref t, .int (Int32.ofNat i)] 2)) (T3.setTop (mkF m 14 #[.val (.ref t), .val (.int (Int32.ofNat i))] [.int (chr8 u)])) := Steps.trans g3 (by
    refine XS.aloadN X3.here hexec rfl (hb hbytes d6) rfl rfl ?_
    refine XS.iloadN X3.here hexec rfl (hb hbytes d7) rfl ?_
    refine X3.aget hexec (hV.mv X3.warmed.alike hh3) rfl hu rfl rfl (hb hbytes d8) ?_
    refine sipushV X3.here hexec rfl 255 (hb hbytes d9) (by decide) ?_
    refine XS.iand X3.here hexec rfl (hb hbytes d12) rfl ?_
    refine i2c X3.here hexec rfl (hb hbytes d13) rfl ?_
    exact Steps.refl _)
  exact ⟨T3, some (.int (chr8 u)), _, _, _, X3, rfl, rfl, rfl, (fun h => by cases h), ⟨rfl, hh3⟩, fun fs hl => c4.trans (X3.ireturnOut hexec hret (narrow_c _) (Or.inr (Or.inr (Or.inr (Or.inl rfl)))) (hb hbytes d14) hl)⟩
end LChA
end StrChars
namespace StrChars.Road
open Jvm Sem ClassFile Op Lib Jvm.Stand Jvm.Free Jvm.Free.XT
open Jvm.Lib.Cold (StaticIs)
theorem consq {a : Array Value} {s : State} {c : Jvm.Cond} {L : List Jvm.Cond} (h0 : c.before a s = true) (h : ∀ w ∈ L, w.before a s = true) : ∀ w ∈ c :: L, w.before a s = true := fun w hw => (List.mem_cons.mp hw).elim (fun e => e ▸ h0) (h w)
/-- the words of String.length(), either coding -/
abbrev wordsLen : List Jvm.Cond := [.code Len.yN Len.yB 1 (some .int), .initialized ST, .fieldLink ST 9 ST "value" "[B", .fieldLink ST 38 ST "COMPACT_STRINGS" "Z", .fieldLink ST 15 ST "coder" "B", .code Cdr.yN Cdr.yB 1 (some .byte), .methodLink ST 335 Cdr.yN, .declares Cdr.yN, .selects ST Cdr.yN Cdr.yN, .instanceMethod Cdr.yN]
theorem tabLen_of {a : Array Value} {s : State} (h : ∀ w ∈ wordsLen, w.before a s = true) : Len.tab.before a s = true := by
  have hc : Cdr.tab.before a s = true := unparts (wk h (.code Cdr.yN Cdr.yB 1 (some .byte))) (wks h (.initialized Cdr.yN.cls :: Cdr.site))
  have q := consq hc h
  exact unparts (wk q (.code Len.yN Len.yB 1 (some .int))) (wks q (.initialized Len.yN.cls :: Len.site))
theorem movedLen {Z s : State} {a0 args : Array Value} (hZ : Z.Warmed39 s.vm) (hw : ∀ d ∈ wordsLen, d.before a0 Z = true) : ∀ d ∈ wordsLen, d.before args s = true := fun d hd => by
  have q := hw d hd
  have t : ∀ d ∈ wordsLen, d = .arrayClass .byte ∨ (d.onTables && d.keepsFace) = true := by decide +kernel
  rcases t d hd with rfl | t
  · exact RoadKit.mvA hZ q
  · exact RoadKit.mv hZ q t
/-- the bytes of the chars cs, low before high -/
def wideBytes : List Int32 → List Value
  | [] => []
  | c :: cs => .int (lo8 c) :: .int (hi8 c) :: wideBytes cs
theorem wide_lo (d : Value) : ∀ (cs : List Int32) (j : Nat), j < cs.length → (wideBytes cs).getD (2 * j) d = .int (lo8 (cs.getD j 0))
  | [], j, h => absurd h (Nat.not_lt_zero j)
  | c :: cs, 0, _ => rfl
  | c :: cs, j + 1, h => by
    have q := wide_lo d cs j (by simpa using h)
    rw [show 2 * (j + 1) = 2 * j + 1 + 1 from by omega]
    simpa [wideBytes] using q
theorem wide_hi (d : Value) : ∀ (cs : List Int32) (j : Nat), j < cs.length → (wideBytes cs).getD (2 * j + 1) d = .int (hi8 (cs.getD j 0))
  | [], j, h => absurd h (Nat.not_lt_zero j)
  | c :: cs, 0, _ => rfl
  | c :: cs, j + 1, h => by
    have q := wide_hi d cs j (by simpa using h)
    rw [show 2 * (j + 1) + 1 = 2 * j + 1 + 1 + 1 from by omega]
    simpa [wideBytes] using q
theorem low_at (d : Value) (cs : List Int32) (j : Nat) (h : j < cs.length) : (cs.map fun c => Value.int (lo8 c)).getD j d = .int (lo8 (cs.getD j 0)) := by
  simp [List.getD_eq_getElem?_getD, h]
/-- an array of N2 bytes vs codes the chars cs by the coder cd -/
def CodA (cs : List Int32) (cd N2 : Int32) (vs : List Value) : Prop := (cd = 0 ∧ N2 = Int32.ofNat cs.length ∧ vs = (cs.map fun c => Value.int (lo8 c)) ∧ ∀ c ∈ cs, ¬ 255 < c) ∨ (cd = 1 ∧ N2 = Int32.ofNat (2 * cs.length) ∧ vs = wideBytes cs ∧ ∃ c ∈ cs, 255 < c)
theorem CodA.cod {cs : List Int32} {cd N2 : Int32} {vs : List Value} {V : Cell} (h : CodA cs cd N2 vs) (hn : 2 * cs.length < 2 ^ 31) (hs : V.slots.size = N2.toNatClampNeg) (hv : RoadKit.Has V vs (.int 0)) : Cod cd cs.length (fun j => cs.getD j 0) V := by
  rcases h with ⟨rfl, rfl, rfl, h⟩ | ⟨rfl, rfl, rfl, c, hc, hw⟩
  · rw [n32 (by omega)] at hs
    exact Or.inl ⟨rfl, hs, fun j hj => ⟨by rw [hv j (by omega), low_at _ _ _ hj], by
      have e : cs.getD j 0 = cs[j] := by simp [List.getD_eq_getElem?_getD, hj]
      show ¬ 255 < cs.getD j 0
      rw [e]; exact h _ (List.getElem_mem _)⟩⟩
  · rw [n32 (by omega)] at hs
    obtain ⟨j, hj, rfl⟩ := List.getElem_of_mem hc
    exact Or.inr ⟨rfl, hs, fun j hj => ⟨by rw [hv _ (by omega), wide_lo _ _ _ hj], by rw [hv _ (by omega), wide_hi _ _ _ hj]⟩, j, hj, by
      have e : cs.getD j 0 = cs[j] := by simp [List.getD_eq_getElem?_getD, hj]
      show 255 < cs.getD j 0
      rw [e]; exact hw⟩
/-- an object of exactly java/lang/String, its two fields found: as the laws ask it -/
theorem strObj {Z U : State} {a0 : Array Value} {kI : Nat} (wi : (Jvm.Cond.instantiable ST kI).before a0 Z = true) (al : Z.vm.Alike U.vm) {x : Addr} {v0 c0 : Value} (E : RoadKit.Exa Z U.heap x ST) (V : RoadKit.Fld Z U.heap x ST "value" "[B" v0) (C : RoadKit.Fld Z U.heap x ST "coder" "B" c0) :
    ∃ (D : Cell) (fV fC : Field), Blank ST x D U ∧ Found ST "value" "[B" fV U ∧ Found ST "coder" "B" fC U ∧ D.slots[fV.slot]? = some v0 ∧ D.slots[fC.slot]? = some c0 ∧ RoadKit.slotOf Z ST "value" "[B" = fV.slot ∧ RoadKit.slotOf Z ST "coder" "B" = fC.slot := by
  obtain ⟨D, cfV, kV, iV, fV, hD, gV, stV, knV, obV, asV, slV⟩ := V
  obtain ⟨D', cfC, kC, iC, fC, hD', gC, stC, -, -, asC, slC⟩ := C
  cases hD.symm.trans hD'
  obtain ⟨D2, kD, e1, e2, e3, e4, e5⟩ := E
  cases hD.symm.trans e1
  obtain ⟨c2, k2, i1, i2, i3, -⟩ := Cond.instantiable_spec wi
  cases e2.symm.trans i1
  cases e3.symm.trans i2
  obtain ⟨kU, u1, u2⟩ := al.2.2 _ _ e3
  exact ⟨D, fV, fC, ⟨hD, ⟨knV, fun q hq => by rw [hq] at obV; cases obV⟩, by rw [al.findClass]; exact e2, kU, u1, by rw [u2]; exact i3, by rw [u2]; exact e5 i3⟩, ⟨SBG.found_only al ⟨cfV, kV, iV, gV⟩, stV⟩, ⟨SBG.found_only al ⟨cfC, kC, iC, gC⟩, stC⟩, slV, slC, by simp [RoadKit.slotOf, gV], by simp [RoadKit.slotOf, gC]⟩
theorem sta_is {Z U : State} (al : Z.vm.Alike U.vm) {C n d : String} {v : Value} (S : RoadKit.Sta Z U.heap C n d v) : StaticIs U C n d v := by
  obtain ⟨cfS, iS, kS, fS, st, cS, t1, t2, t3, t4, t5, t6, t7⟩ := S
  exact StaticIs.there (s := { Z with heap := U.heap }) ⟨cfS, iS, kS, fS, st, cS, t1, t2, t3, t4, t5, (fun q => by rw [q] at t6; cases t6), t7⟩ al rfl
/-- **length() OF SUCH A STRING** -/
theorem lenW {p : Program} {l : Launch} {e : Env} {R : Room} {s : State} {args : Array Value} {below : List Frame} {len W : Nat} {Z : State} {a0 : Array Value} {h : Heap} (hZ : Z.Warmed39 s.vm) (hw : ∀ d ∈ wordsLen, d.before a0 Z = true) {kI : Nat} (wi : (Jvm.Cond.instantiable ST kI).before a0 Z = true)
    {x t : Addr} {kb : ClassId} {cs : List Int32} {cd N2 z : Int32} {vs : List Value} (E : RoadKit.Exa Z h x ST) (V : RoadKit.Fld Z h x ST "value" "[B" (.ref t)) (C : RoadKit.Fld Z h x ST "coder" "B" (.int cd)) (K : RoadKit.Arv Z h t kb .byte N2 vs (.int 0)) (hc : CodA cs cd N2 vs) (hb : ∀ c ∈ cs, ¬ c < 0 ∧ ¬ (65535 : Int32) < c)
    (S : RoadKit.Sta Z h ST "COMPACT_STRINGS" "Z" (.int z)) (hz : ¬ z = 0) (l2 : cs.length ≤ 4000) (hfr : 2 ≤ R.frames) (hlo : W + 25 ≤ R.locals) :
    Back l R p e below s args (⟨"java/lang/String", "length", "()I"⟩ : MethodName) len W (fun P a => a = #[.ref x] ∧ P.U.heap = h ∧ P.cells + 0 ≤ R.cells ∧ P.slots + 0 ≤ R.slots)
      (fun P _ v B => ∃ L, (v = some (.int (Int32.ofNat cs.length)) ∧ L = [] ∧ B.U.heap = h) ∧ B.locs = P.locs ++ L ∧ B.cells = P.cells + 0 ∧ B.slots = P.slots + 0) := by
  obtain ⟨A, K1, K2, K3, K4, K5, K6⟩ := K
  have hcod := hc.cod (by omega) K3 K5
  intro m meth c P g ig mk a X hg hsize hdg hW hn hp'
  obtain ⟨rfl, rfl, r1, r2⟩ := hp'
  have al : Z.vm.Alike P.U.vm := hZ.alike.trans X.warmed.alike
  obtain ⟨D, fV, fC, hB, F1, F2, g1, g2, -, -⟩ := strObj wi al E V C
  have hx : Txt x t A cd cs.length (fun j => cs.getD j 0) P.U := ⟨⟨_, hB.2.2.1, D, hB.1, rfl, by cases q : D.vm <;> first | rfl | exact absurd q (hB.2.1.2 _)⟩, Has.of hB F1 g1, Has.of hB F2 g2, ⟨K1.1, State.isArrayOf_alike al K1.2.1, K1.2.2, by rcases hcod with ⟨-, q, -⟩ | ⟨-, q, -⟩ <;> omega⟩, hcod, fun j hj => by
    have e : cs.getD j 0 = cs[j] := by simp [List.getD_eq_getElem?_getD, hj]
    show ¬ cs.getD j 0 < 0 ∧ ¬ 65535 < cs.getD j 0
    rw [e]; exact hb _ (List.getElem_mem _)⟩
  obtain ⟨v, B, X', ⟨⟨hv, hh⟩, hl, hk, hs⟩, st⟩ := Len.pays x t A cd cs.length (fun j => cs.getD j 0) z (tabLen_of (movedLen hZ hw)) hfr hlo m meth c P g ig mk _ X hg hsize hdg hW hn ⟨r1, r2, rfl, hx, sta_is al S, hz⟩
  exact ⟨v, B, X', ⟨[], ⟨hv, rfl, hh⟩, hl, hk, hs⟩, st⟩
end StrChars.Road
namespace StrChars
open Jvm Sem ClassFile Op Lib Jvm.Stand Jvm.Free.XT Jvm.Free.ALB Jvm.Free.JM Jvm.Free
open Jvm.Lib.Cold (StaticIs)
/-- what place i of a byte[]'s cell holds -/
def yv (A : Cell) (i : Nat) : Int32 := match A.slots[i]? with | some (.int x) => x | _ => 0
theorem yv_get {a : Addr} {A : Cell} {U : State} (h : XT.Arr .byte a A U) (ht : Typed .byte A) {i : Nat} (hi : i < A.slots.size) : A.slots[i]? = some (.int (yv A i)) := by
  have e := Array.getElem?_eq_getElem hi
  have f := ht i _ e
  unfold yv; rw [e]
  generalize A.slots[i] = v at f
  cases v <;> simp [fits] at f ⊢
/-- the two arrays are equal, place for place -/
def EqC (A B : Cell) : Prop := A.slots.size = B.slots.size ∧ ∀ i, i < A.slots.size → yv A i = yv B i
/-- a boolean that says whether p -/
def Says01 (q : Prop) (r : Option Value) (s u : State) : Prop := ∃ v : Int32, r = some (.int v) ∧ u.heap = s.heap ∧ ((v = 1 ∧ q) ∨ (v = 0 ∧ ¬ q))
theorem Says01.mv {q : Prop} : ∀ r (U U' V V' : State), U'.heap = U.heap → V.vm.Alike V'.vm → V'.heap = V.heap → Says01 q r U V → Says01 q r U' V' :=
  fun r U U' V V' h1 _ h2 ⟨v, a, b, c⟩ => ⟨v, a, by rw [h1, h2]; exact b, c⟩
namespace LEq
def yN : MethodName := ⟨"java/lang/StringLatin1", "equals", "([B[B)Z"⟩
abbrev yB : ByteArray := jdk_43_method_13_code
theorem d0 : decode yB 0 = .ok (.aload_n 0, 1) := by decide +kernel
theorem d1 : decode yB 1 = .ok (.arraylength, 1) := by decide +kernel
theorem d2 : decode yB 2 = .ok (.aload_n 1, 1) := by decide +kernel
theorem d3 : decode yB 3 = .ok (.arraylength, 1) := by decide +kernel
theorem d4 : decode yB 4 = .ok (.if_icmp (.ne) 30, 3) := by decide +kernel
theorem d7 : decode yB 7 = .ok (.iconst 0, 1) := by decide +kernel
theorem d8 : decode yB 8 = .ok (.istore_n 2, 1) := by decide +kernel
theorem d9 : decode yB 9 = .ok (.iload_n 2, 1) := by decide +kernel
theorem d10 : decode yB 10 = .ok (.aload_n 0, 1) := by decide +kernel
theorem d11 : decode yB 11 = .ok (.arraylength, 1) := by decide +kernel
theorem d12 : decode yB 12 = .ok (.if_icmp (.ge) 20, 3) := by decide +kernel
theorem d15 : decode yB 15 = .ok (.aload_n 0, 1) := by decide +kernel
theorem d16 : decode yB 16 = .ok (.iload_n 2, 1) := by decide +kernel
theorem d17 : decode yB 17 = .ok (.baload, 1) := by decide +kernel
theorem d18 : decode yB 18 = .ok (.aload_n 1, 1) := by decide +kernel
theorem d19 : decode yB 19 = .ok (.iload_n 2, 1) := by decide +kernel
theorem d20 : decode yB 20 = .ok (.baload, 1) := by decide +kernel
theorem d21 : decode yB 21 = .ok (.if_icmp (.eq) 5, 3) := by decide +kernel
theorem d24 : decode yB 24 = .ok (.iconst 0, 1) := by decide +kernel
theorem d25 : decode yB 25 = .ok (.ireturn, 1) := by decide +kernel
theorem d26 : decode yB 26 = .ok (.iinc 2 1, 3) := by decide +kernel
theorem d29 : decode yB 29 = .ok (.goto (-20), 3) := by decide +kernel
theorem d32 : decode yB 32 = .ok (.iconst 1, 1) := by decide +kernel
theorem d33 : decode yB 33 = .ok (.ireturn, 1) := by decide +kernel
theorem d34 : decode yB 34 = .ok (.iconst 0, 1) := by decide +kernel
theorem d35 : decode yB 35 = .ok (.ireturn, 1) := by decide +kernel
def site : List Cond := []
def tab : Cond := tabOf yN yB 3 (some .boolean) site
def P (a : Addr) (A : Cell) (b : Addr) (B : Cell) (args : Array Value) (s : State) : Prop := args = #[.ref a, .ref b] ∧ XT.Arr .byte a A s ∧ Typed .byte A ∧ XT.Arr .byte b B s ∧ Typed .byte B
/-- whether two byte[] are equal, place for place -/
theorem law (l : Launch) (a : Addr) (A : Cell) (b : Addr) (B : Cell) : Law l yN 2 2 0 0 yB 3 (some .boolean) site (P a A b B) (Says01 (EqC A B)) [] 0 0 := by
  refine Law.of_walk (plainFor_of_name (by decide +kernel)) (by decide +kernel) (by decide +kernel) (by decide) (fun _ _ h => by rw [h.1]; rfl) (fun _ U U' hal hh h => ⟨h.1, h.2.1.mv hal hh, h.2.2.1, h.2.2.2.1.mv hal hh, h.2.2.2.2⟩) (fun r U U' V V' h1 hal h2 h => Says01.mv r U U' V V' h1 hal h2 h) ?_
  intro p e s m args below meth c s₁ X0 hexec hbytes hml hret hlk hnm hown hh0 W hP
  obtain ⟨rfl, hA, tA, hB, tB⟩ := hP
  have a31 := hA.2.2.2
  have b31 := hB.2.2.2
  have hA0 := hA.mv X0.warmed.alike hh0
  have hB0 := hB.mv X0.warmed.alike hh0
  have c1 : Steps p.tables e below (s₁.setTop (entryFrame m #[.ref a, .ref b] 3)) (s₁.setTop (mkF m 0 #[.val (.ref a), .val (.ref b), .unset] [])) := entry rfl
  have c2 : Steps p.tables e below (s₁.setTop (entryFrame m #[.ref a, .ref b] 3)) (s₁.setTop (mkF m 4 #[.val (.ref a), .val (.ref b), .unset] [.int (Int32.ofNat B.slots.size), .int (Int32.ofNat A.slots.size)])) := c1.trans (by
    refine XS.aloadN X0.here hexec rfl (hb hbytes d0) rfl rfl ?_
    refine X0.alen hexec hA0 rfl rfl (hb hbytes d1) ?_
    refine XS.aloadN X0.here hexec rfl (hb hbytes d2) rfl rfl ?_
    refine X0.alen hexec hB0 rfl rfl (hb hbytes d3) ?_
    exact Steps.refl _)
  by_cases hs : A.slots.size = B.slots.size
  · have c3 : Steps p.tables e below (s₁.setTop (entryFrame m #[.ref a, .ref b] 3)) (s₁.setTop (mkF m 9 #[.val (.ref a), .val (.ref b), .val (.int 0)] [])) := c2.trans (by
      refine XS.icmpNo X0.here hexec rfl (hb hbytes d4) rfl (ii_ne_f (by rw [hs])) ?_
      refine iconstV X0.here hexec rfl 0 (hb hbytes d7) (by decide) ?_
      refine XS.istoreN X0.here hexec rfl (hb hbytes d8) rfl rfl ?_
      exact Steps.refl _)
    have loop : ∀ (r i : Nat), i + r = A.slots.size → (∀ j, j < i → yv A j = yv B j) → Steps p.tables e below (s₁.setTop (entryFrame m #[.ref a, .ref b] 3)) (s₁.setTop (mkF m 9 #[.val (.ref a), .val (.ref b), .val (.int (Int32.ofNat i))] [])) → ∃ (pc : Nat) (Ls : Array Slot) (v : Int32), (pc = 25 ∨ pc = 33) ∧ ((v = 1 ∧ EqC A B) ∨ (v = 0 ∧ ¬ EqC A B)) ∧ Steps p.tables e below (s₁.setTop (entryFrame m #[.ref a, .ref b] 3)) (s₁.setTop (mkF m pc Ls [.int v])) := by
      intro r
      induction r with
      | zero =>
        intro i hi he cl
        exact ⟨33, _, 1, Or.inr rfl, Or.inl ⟨rfl, hs, fun j hj => he j (by omega)⟩, cl.trans (by
          refine XS.iloadN X0.here hexec rfl (hb hbytes d9) rfl ?_
          refine XS.aloadN X0.here hexec rfl (hb hbytes d10) rfl rfl ?_
          refine X0.alen hexec hA0 rfl rfl (hb hbytes d11) ?_
          refine XS.icmpYes X0.here hexec rfl (pc0 := 12) rfl (hb hbytes d12) rfl (ii_ge_t (nlt32 (by omega) (by omega))) (by decide) rfl ?_
          refine iconstV X0.here hexec rfl 1 (hb hbytes d32) (by decide) ?_
          exact Steps.refl _)⟩
      | succ r ih =>
        intro i hi he cl
        have c4 : Steps p.tables e below (s₁.setTop (entryFrame m #[.ref a, .ref b] 3)) (s₁.setTop (mkF m 21 #[.val (.ref a), .val (.ref b), .val (.int (Int32.ofNat i))] [.int (yv B i), .int (yv A i)])) := cl.trans (by
          refine XS.iloadN X0.here hexec rfl (hb hbytes d9) rfl ?_
          refine XS.aloadN X0.here hexec rfl (hb hbytes d10) rfl rfl ?_
          refine X0.alen hexec hA0 rfl rfl (hb hbytes d11) ?_
          refine XS.icmpNo X0.here hexec rfl (hb hbytes d12) rfl (ii_ge_f (lt32 (by omega) (by omega))) ?_
          refine XS.aloadN X0.here hexec rfl (hb hbytes d15) rfl rfl ?_
          refine XS.iloadN X0.here hexec rfl (hb hbytes d16) rfl ?_
          refine X0.aget hexec hA0 rfl (yv_get hA tA (i := i) (by omega)) rfl rfl (hb hbytes d17) ?_
          refine XS.aloadN X0.here hexec rfl (hb hbytes d18) rfl rfl ?_
          refine XS.iloadN X0.here hexec rfl (hb hbytes d19) rfl ?_
          refine X0.aget hexec hB0 rfl (yv_get hB tB (i := i) (by omega)) rfl rfl (hb hbytes d20) ?_
          exact Steps.refl _)
        by_cases hv : yv A i = yv B i
        · have c5 : Steps p.tables e below (s₁.setTop (entryFrame m #[.ref a, .ref b] 3)) (s₁.setTop (mkF m 9 #[.val (.ref a), .val (.ref b), .val (.int (Int32.ofNat i + 1))] [])) := c4.trans (by
            refine XS.icmpYes X0.here hexec rfl (pc0 := 21) rfl (hb hbytes d21) rfl (ii_eq_t hv) (by decide) rfl ?_
            refine iincV X0.here hexec rfl 1 (hb hbytes d26) (by decide) rfl rfl ?_
            refine XS.goto X0.here hexec rfl (pc0 := 29) rfl (hb hbytes d29) (by decide) rfl ?_
            exact Steps.refl _)
          rw [succ32] at c5
          exact ih (i + 1) (by omega) (fun j hj => by
            by_cases e : j = i
            · rw [e]; exact hv
            · exact he j (by omega)) c5
        · exact ⟨25, _, 0, Or.inl rfl, Or.inr ⟨rfl, fun q => hv (q.2 i (by omega))⟩, c4.trans (by
            refine XS.icmpNo X0.here hexec rfl (hb hbytes d21) rfl (ii_eq_f hv) ?_
            refine iconstV X0.here hexec rfl 0 (hb hbytes d24) (by decide) ?_
            exact Steps.refl _)⟩
    obtain ⟨pc, Ls, v, hpc, hv, cz⟩ := loop A.slots.size 0 (by omega) (fun j hj => absurd hj (Nat.not_lt_zero j)) c3
    have nv : narrow .boolean (.int v) = .int v := by rcases hv with ⟨rfl, -⟩ | ⟨rfl, -⟩ <;> rfl
    rcases hpc with rfl | rfl
    · exact ⟨s₁, some (.int v), _, _, _, X0, rfl, rfl, rfl, (fun h => by cases h), ⟨v, rfl, hh0, hv⟩, fun fs hl => cz.trans (X0.ireturnOut hexec hret nv (Or.inr (Or.inl rfl)) (hb hbytes d25) hl)⟩
    · exact ⟨s₁, some (.int v), _, _, _, X0, rfl, rfl, rfl, (fun h => by cases h), ⟨v, rfl, hh0, hv⟩, fun fs hl => cz.trans (X0.ireturnOut hexec hret nv (Or.inr (Or.inl rfl)) (hb hbytes d33) hl)⟩
  · have c3 : Steps p.tables e below (s₁.setTop (entryFrame m #[.ref a, .ref b] 3)) (s₁.setTop (mkF m 35 #[.val (.ref a), .val (.ref b), .unset] [.int 0])) := c2.trans (by
      refine XS.icmpYes X0.here hexec rfl (pc0 := 4) rfl (hb hbytes d4) rfl (ii_ne_t (ne32 a31 b31 hs)) (by decide) rfl ?_
      refine iconstV X0.here hexec rfl 0 (hb hbytes d34) (by decide) ?_
      exact Steps.refl _)
    exact ⟨s₁, some (.int 0), _, _, _, X0, rfl, rfl, rfl, (fun h => by cases h), ⟨0, rfl, hh0, Or.inr ⟨rfl, fun q => hs q.1⟩⟩, fun fs hl => c3.trans (X0.ireturnOut hexec hret rfl (Or.inr (Or.inl rfl)) (hb hbytes d35) hl)⟩
end LEq
theorem Cod.ty {cd : Int32} {n : Nat} {f : Nat → Int32} {V : Cell} (h : Cod cd n f V) : Typed .byte V := fun i v hv => by
  have hi : i < V.slots.size := (Array.getElem?_eq_some_iff.mp hv).1
  rcases h with ⟨-, k1, k2⟩ | ⟨-, k1, k2, -⟩
  · rw [(k2 i (by omega)).1] at hv; cases hv; exact fits_lo8 _
  · rcases Nat.mod_two_eq_zero_or_one i with e | e
    · obtain ⟨j, rfl⟩ : ∃ j, i = 2 * j := ⟨i / 2, by omega⟩
      rw [(k2 j (by omega)).1] at hv; cases hv; exact fits_lo8 _
    · obtain ⟨j, rfl⟩ : ∃ j, i = 2 * j + 1 := ⟨i / 2, by omega⟩
      rw [(k2 j (by omega)).2] at hv; cases hv; exact fits_lo8 _
/-- the same text -/
def SameT (n : Nat) (f : Nat → Int32) (k : Nat) (g : Nat → Int32) : Prop := n = k ∧ ∀ j, j < n → f j = g j
theorem lo8_inj {x y : Int32} (h0 : ¬ x < 0) (h1 : ¬ 255 < x) (k0 : ¬ y < 0) (k1 : ¬ 255 < y) (h : lo8 x = lo8 y) : x = y := by
  rw [← lo8_mask h0 h1, ← lo8_mask k0 k1, h]
/-- arrays coded by one coder are equal just where the texts are -/
theorem Cod.eqv {cd : Int32} {n k : Nat} {f g : Nat → Int32} {V V' : Cell} (h : Cod cd n f V) (h' : Cod cd k g V') (hf : ∀ j, j < n → ¬ f j < 0 ∧ ¬ 65535 < f j) (hg : ∀ j, j < k → ¬ g j < 0 ∧ ¬ 65535 < g j) : EqC V V' ↔ SameT n f k g := by
  have yvv : ∀ {W : Cell} {i : Nat} {x : Int32}, W.slots[i]? = some (.int x) → yv W i = x := fun q => by unfold yv; rw [q]
  rcases h with ⟨rfl, k1, k2⟩ | ⟨rfl, k1, k2, -⟩
  · rcases h' with ⟨-, m1, m2⟩ | ⟨e, -⟩
    · constructor
      · rintro ⟨e1, e2⟩
        refine ⟨by omega, fun j hj => ?_⟩
        have q := e2 j (by omega)
        rw [yvv (k2 j hj).1, yvv (m2 j (by omega)).1] at q
        exact lo8_inj (hf j hj).1 (k2 j hj).2 (hg j (by omega)).1 (m2 j (by omega)).2 q
      · rintro ⟨rfl, e2⟩
        refine ⟨by omega, fun j hj => ?_⟩
        rw [yvv (k2 j (by omega)).1, yvv (m2 j (by omega)).1, e2 j (by omega)]
    · exact absurd e (by decide)
  · rcases h' with ⟨e, -⟩ | ⟨-, m1, m2, -⟩
    · exact absurd e (by decide)
    · constructor
      · rintro ⟨e1, e2⟩
        refine ⟨by omega, fun j hj => ?_⟩
        have q1 := e2 (2 * j) (by omega)
        have q2 := e2 (2 * j + 1) (by omega)
        rw [yvv (k2 j hj).1, yvv (m2 j (by omega)).1] at q1
        rw [yvv (k2 j hj).2, yvv (m2 j (by omega)).2] at q2
        rw [← pair_says (hf j hj).1 (hf j hj).2, ← pair_says (hg j (by omega)).1 (hg j (by omega)).2, q1, q2]
      · rintro ⟨rfl, e2⟩
        refine ⟨by omega, fun i hi => ?_⟩
        rcases Nat.mod_two_eq_zero_or_one i with e | e
        · obtain ⟨j, rfl⟩ : ∃ j, i = 2 * j := ⟨i / 2, by omega⟩
          rw [yvv (k2 j (by omega)).1, yvv (m2 j (by omega)).1, e2 j (by omega)]
        · obtain ⟨j, rfl⟩ : ∃ j, i = 2 * j + 1 := ⟨i / 2, by omega⟩
          rw [yvv (k2 j (by omega)).2, yvv (m2 j (by omega)).2, e2 j (by omega)]
/-- two codings differ: so do the texts -/
theorem Cod.dif {cd cd' : Int32} {n k : Nat} {f g : Nat → Int32} {V V' : Cell} (h : Cod cd n f V) (h' : Cod cd' k g V') (hne : ¬ cd = cd') : ¬ SameT n f k g := by
  rintro ⟨rfl, e⟩
  rcases h with ⟨rfl, -, k2⟩ | ⟨rfl, -, -, j, hj, hw⟩
  · rcases h' with ⟨rfl, -⟩ | ⟨-, -, -, j, hj, hw⟩
    · exact hne rfl
    · exact (k2 j hj).2 (by rw [e j hj]; exact hw)
  · rcases h' with ⟨-, -, m2⟩ | ⟨rfl, -⟩
    · exact (m2 j hj).2 (by rw [← e j hj]; exact hw)
    · exact hne rfl
/-- an object of exactly C is an instance of C -/
theorem cinst {p : Program} {l : Launch} {e : Env} {R : Room} {s : State} {m : MethodId} {args : Array Value} {below : List Frame} {meth : Method} {c : Code} {T : State} {locs : List Loc} {cells slots : Nat} (X : Stand p l e R s m args below meth c T locs cells slots) (hexec : p.tables.exec = Jvm.exec) {own C : String} {index : Nat} (hown : s.vm.findClass own = some m.cls) (hlink : (Cond.classLink own index C).before args s = true) {a : Addr} (hE : Exact C a T)
    {g : JFrame} (hg : g.method = m) {rest : List Value} (hstack : g.stack = .ref a :: rest) (hdg : decode c.code g.pc = .ok (.instanceof index, 3)) :
    ∃ T', Stand p l e R s m args below meth c T' locs cells slots ∧ T'.heap = T.heap ∧ ∀ target, Steps p.tables e below (T'.setTop { g with pc := g.pc + 3, stack := .int 1 :: rest }) target → Steps p.tables e below (T.setTop g) target := by
  obtain ⟨cB, h1, D, h2, h3, h4⟩ := hE
  have h1' : s.vm.findClass C = some cB := by rw [← X.warmed.alike.findClass]; exact h1
  obtain ⟨vm', X', st⟩ := X.instanceofYes hexec hown hlink h2 h4 h1' (by rw [h3]; exact Jvm.Free.SB.assignable_self _ _) hg hstack hdg
  exact ⟨_, X', rfl, st⟩
theorem cself {p : Program} {l : Launch} {e : Env} {R : Room} {s : State} {m : MethodId} {args : Array Value} {below : List Frame} {meth : Method} {c : Code} {T : State} {locs : List Loc} {cells slots : Nat} (X : Stand p l e R s m args below meth c T locs cells slots) (hexec : p.tables.exec = Jvm.exec) {own C : String} {index : Nat} (hown : s.vm.findClass own = some m.cls) (hlink : (Cond.classLink own index C).before args s = true) {a : Addr} (hE : Exact C a T)
    {g : JFrame} (hg : g.method = m) {rest : List Value} (hstack : g.stack = .ref a :: rest) (hdg : decode c.code g.pc = .ok (.checkcast index, 3)) :
    ∃ T', Stand p l e R s m args below meth c T' locs cells slots ∧ T'.heap = T.heap ∧ ∀ target, Steps p.tables e below (T'.setTop { g with pc := g.pc + 3, stack := .ref a :: rest }) target → Steps p.tables e below (T.setTop g) target := by
  obtain ⟨cB, h1, D, h2, h3, h4⟩ := hE
  have h1' : s.vm.findClass C = some cB := by rw [← X.warmed.alike.findClass]; exact h1
  obtain ⟨vm', X', st⟩ := X.checkcastYes hexec hown hlink h2 h4 h1' (by rw [h3]; exact Jvm.Free.SB.assignable_self _ _) hg hstack hdg
  exact ⟨_, X', rfl, fun t h => st t (by rw [← hstack] at h; exact h)⟩
namespace SEq
def yN : MethodName := ⟨"java/lang/String", "equals", "(Ljava/lang/Object;)Z"⟩
abbrev yB : ByteArray := jdk_42_method_66_code
theorem d0 : decode yB 0 = .ok (.aload_n 0, 1) := by decide +kernel
theorem d1 : decode yB 1 = .ok (.aload_n 1, 1) := by decide +kernel
theorem d2 : decode yB 2 = .ok (.if_acmp (.ne) 5, 3) := by decide +kernel
theorem d5 : decode yB 5 = .ok (.iconst 1, 1) := by decide +kernel
theorem d6 : decode yB 6 = .ok (.ireturn, 1) := by decide +kernel
theorem d7 : decode yB 7 = .ok (.aload_n 1, 1) := by decide +kernel
theorem d8 : decode yB 8 = .ok (.instanceof 10, 3) := by decide +kernel
theorem d11 : decode yB 11 = .ok (.ifCond (.eq) 43, 3) := by decide +kernel
theorem d14 : decode yB 14 = .ok (.aload_n 1, 1) := by decide +kernel
theorem d15 : decode yB 15 = .ok (.checkcast 10, 3) := by decide +kernel
theorem d18 : decode yB 18 = .ok (.astore_n 2, 1) := by decide +kernel
theorem d19 : decode yB 19 = .ok (.getstatic 38, 3) := by decide +kernel
theorem d22 : decode yB 22 = .ok (.ifCond (.eq) 14, 3) := by decide +kernel
theorem d25 : decode yB 25 = .ok (.aload_n 0, 1) := by decide +kernel
theorem d26 : decode yB 26 = .ok (.getfield 15, 3) := by decide +kernel
theorem d29 : decode yB 29 = .ok (.aload_n 2, 1) := by decide +kernel
theorem d30 : decode yB 30 = .ok (.getfield 15, 3) := by decide +kernel
theorem d33 : decode yB 33 = .ok (.if_icmp (.ne) 21, 3) := by decide +kernel
theorem d36 : decode yB 36 = .ok (.aload_n 0, 1) := by decide +kernel
theorem d37 : decode yB 37 = .ok (.getfield 9, 3) := by decide +kernel
theorem d40 : decode yB 40 = .ok (.aload_n 2, 1) := by decide +kernel
theorem d41 : decode yB 41 = .ok (.getfield 9, 3) := by decide +kernel
theorem d44 : decode yB 44 = .ok (.invokestatic 541, 3) := by decide +kernel
theorem d47 : decode yB 47 = .ok (.ifCond (.eq) 7, 3) := by decide +kernel
theorem d50 : decode yB 50 = .ok (.iconst 1, 1) := by decide +kernel
theorem d51 : decode yB 51 = .ok (.goto 4, 3) := by decide +kernel
theorem d54 : decode yB 54 = .ok (.iconst 0, 1) := by decide +kernel
theorem d55 : decode yB 55 = .ok (.ireturn, 1) := by decide +kernel
def site : List Cond := [.classLink "java/lang/String" 10 "java/lang/String", .fieldLink "java/lang/String" 38 "java/lang/String" "COMPACT_STRINGS" "Z", .fieldLink "java/lang/String" 15 "java/lang/String" "coder" "B", .fieldLink "java/lang/String" 9 "java/lang/String" "value" "[B", LEq.tab] ++ staticW "java/lang/String" 541 LEq.yN
def tab : Cond := tabOf yN yB 3 (some .boolean) site
def P (x t : Addr) (V : Cell) (cd : Int32) (n : Nat) (f : Nat → Int32) (y t' : Addr) (V' : Cell) (cd' : Int32) (k : Nat) (g : Nat → Int32) (z : Int32) (args : Array Value) (s : State) : Prop := args = #[.ref x, .ref y] ∧ Txt x t V cd n f s ∧ Txt y t' V' cd' k g s ∧ StaticIs s "java/lang/String" "COMPACT_STRINGS" "Z" (.int z) ∧ ¬ z = 0
/-- equals(Object) of two Strings: whether the texts are the same -/
theorem law (l : Launch) (x t : Addr) (V : Cell) (cd : Int32) (n : Nat) (f : Nat → Int32) (y t' : Addr) (V' : Cell) (cd' : Int32) (k : Nat) (g : Nat → Int32) (z : Int32) : Law l yN 2 1 1 14 yB 3 (some .boolean) site (P x t V cd n f y t' V' cd' k g z) (Says01 (SameT n f k g)) [] 0 0 := by
  refine Law.of_walk (plainFor_of_name (by decide +kernel)) (by decide +kernel) (by decide +kernel) (by decide) (fun _ _ h => by rw [h.1]; rfl) (fun _ U U' hal hh h => ⟨h.1, h.2.1.mv hal hh, h.2.2.1.mv hal hh, h.2.2.2.1.there hal hh, h.2.2.2.2⟩) (fun r U U' V V' h1 hal h2 h => Says01.mv r U U' V V' h1 hal h2 h) ?_
  intro p e s m args below meth c s₁ X0 hexec hbytes hml hret hlk hnm hown hh0 W hP
  obtain ⟨rfl, hx, hy, s1, hz⟩ := hP
  have c1 : Steps p.tables e below (s₁.setTop (entryFrame m #[.ref x, .ref y] 3)) (s₁.setTop (mkF m 2 #[.val (.ref x), .val (.ref y), .unset] [.ref y, .ref x])) := Steps.trans (entry rfl) (by
    show Steps p.tables e below (s₁.setTop (mkF m 0 #[.val (.ref x), .val (.ref y), .unset] [])) _
    refine XS.aloadN X0.here hexec rfl (hb hbytes d0) rfl rfl ?_
    refine XS.aloadN X0.here hexec rfl (hb hbytes d1) rfl rfl ?_
    exact Steps.refl _)
  by_cases hxy : x = y
  · have c2 : Steps p.tables e below (s₁.setTop (entryFrame m #[.ref x, .ref y] 3)) (s₁.setTop (mkF m 6 #[.val (.ref x), .val (.ref y), .unset] [.int 1])) := c1.trans (by
      refine acmpNo X0.here hexec rfl (hb hbytes d2) rfl rfl rfl (by simp [acmp, hxy]) ?_
      refine iconstV X0.here hexec rfl 1 (hb hbytes d5) (by decide) ?_
      exact Steps.refl _)
    subst hxy
    have ec : cd = cd' := by
      obtain ⟨D, fd, a1, a2, a3⟩ := hx.2.2.1
      obtain ⟨D', fd', b1, b2, b3⟩ := hy.2.2.1
      cases a1.symm.trans b1
      obtain ⟨q1, q2, q3, q4⟩ := a2.1
      obtain ⟨r1, r2, r3, r4⟩ := b2.1
      cases q4.symm.trans r4
      cases a3.symm.trans b3; rfl
    have et : t = t' := by
      obtain ⟨D, fd, a1, a2, a3⟩ := hx.2.1
      obtain ⟨D', fd', b1, b2, b3⟩ := hy.2.1
      cases a1.symm.trans b1
      obtain ⟨q1, q2, q3, q4⟩ := a2.1
      obtain ⟨r1, r2, r3, r4⟩ := b2.1
      cases q4.symm.trans r4
      cases a3.symm.trans b3; rfl
    subst ec et
    have ev : V = V' := by cases hx.2.2.2.1.1.symm.trans hy.2.2.2.1.1; rfl
    subst ev
    have hs : SameT n f k g := (Cod.eqv hx.2.2.2.2.1 hy.2.2.2.2.1 hx.2.2.2.2.2 hy.2.2.2.2.2).mp ⟨rfl, fun _ _ => rfl⟩
    exact ⟨s₁, some (.int 1), _, _, _, X0, rfl, rfl, rfl, (fun h => by cases h), ⟨1, rfl, hh0, Or.inl ⟨rfl, hs⟩⟩, fun fs hl => c2.trans (X0.ireturnOut hexec hret rfl (Or.inr (Or.inl rfl)) (hb hbytes d6) hl)⟩
  · have c2 : Steps p.tables e below (s₁.setTop (entryFrame m #[.ref x, .ref y] 3)) (s₁.setTop (mkF m 8 #[.val (.ref x), .val (.ref y), .unset] [.ref y])) := c1.trans (by
      refine acmpYes X0.here hexec rfl (pc0 := 2) rfl (hb hbytes d2) rfl rfl rfl (by simp [acmp, hxy]) (by decide) rfl ?_
      refine XS.aloadN X0.here hexec rfl (hb hbytes d7) rfl rfl ?_
      exact Steps.refl _)
    obtain ⟨T3, X3, q3, st3⟩ := cinst X0 hexec hown (wk W (.classLink "java/lang/String" 10 "java/lang/String")) (hy.mv X0.warmed.alike hh0).1 (g := (mkF m 8 #[.val (.ref x), .val (.ref y), .unset] [.ref y])) rfl (rest := []) rfl (hb hbytes d8)
    have hh3 := q3.trans hh0
    have c4 : Steps p.tables e below (s₁.setTop (entryFrame m #[.ref x, .ref y] 3)) (T3.setTop (mkF m 15 #[.val (.ref x), .val (.ref y), .unset] [.ref y])) := (c2.trans (st3 _ (Steps.refl _))).trans (by
      refine XS.ifNo X3.here hexec rfl (hb hbytes d11) rfl (i0_eq_f (by decide)) ?_
      refine XS.aloadN X3.here hexec rfl (hb hbytes d14) rfl rfl ?_
      exact Steps.refl _)
    obtain ⟨T5, X5, q5, st5⟩ := cself X3 hexec hown (wk W (.classLink "java/lang/String" 10 "java/lang/String")) (hy.mv X3.warmed.alike hh3).1 (g := (mkF m 15 #[.val (.ref x), .val (.ref y), .unset] [.ref y])) rfl (rest := []) rfl (hb hbytes d15)
    have hh5 := q5.trans hh3
    have c6 : Steps p.tables e below (s₁.setTop (entryFrame m #[.ref x, .ref y] 3)) (T5.setTop (mkF m 19 #[.val (.ref x), .val (.ref y), .val (.ref y)] [])) := (c4.trans (st5 _ (Steps.refl _))).trans (by
      refine XS.astoreN X5.here hexec rfl (hb hbytes d18) rfl rfl rfl ?_
      exact Steps.refl _)
    obtain ⟨T7, X7, q7, st7⟩ := X5.sget hexec hown (wk W (.fieldLink "java/lang/String" 38 "java/lang/String" "COMPACT_STRINGS" "Z")) s1 (fun _ _ h => by rw [hh5]; exact h) (g := (mkF m 19 #[.val (.ref x), .val (.ref y), .val (.ref y)] [])) rfl (hb hbytes d19)
    have hh7 := q7.trans hh5
    have c8 : Steps p.tables e below (s₁.setTop (entryFrame m #[.ref x, .ref y] 3)) (T7.setTop (mkF m 26 #[.val (.ref x), .val (.ref y), .val (.ref y)] [.ref x])) := (c6.trans (st7 _ (Steps.refl _))).trans (by
      refine XS.ifNo X7.here hexec rfl (hb hbytes d22) rfl (i0_eq_f hz) ?_
      refine XS.aloadN X7.here hexec rfl (hb hbytes d25) rfl rfl ?_
      exact Steps.refl _)
    obtain ⟨T9, X9, q9, st9⟩ := X7.hget hexec hown (wk W (.fieldLink "java/lang/String" 15 "java/lang/String" "coder" "B")) (hx.mv X7.warmed.alike hh7).2.2.1 (g := (mkF m 26 #[.val (.ref x), .val (.ref y), .val (.ref y)] [.ref x])) rfl (rest := []) rfl (hb hbytes d26)
    have hh9 := q9.trans hh7
    have c10 : Steps p.tables e below (s₁.setTop (entryFrame m #[.ref x, .ref y] 3)) (T9.setTop (mkF m 30 #[.val (.ref x), .val (.ref y), .val (.ref y)] [.ref y, .int cd])) := (c8.trans (st9 _ (Steps.refl _))).trans (by
      refine XS.aloadN X9.here hexec rfl (hb hbytes d29) rfl rfl ?_
      exact Steps.refl _)
    obtain ⟨T11, X11, q11, st11⟩ := X9.hget hexec hown (wk W (.fieldLink "java/lang/String" 15 "java/lang/String" "coder" "B")) (hy.mv X9.warmed.alike hh9).2.2.1 (g := (mkF m 30 #[.val (.ref x), .val (.ref y), .val (.ref y)] [.ref y, .int cd])) rfl (rest := [.int cd]) rfl (hb hbytes d30)
    have hh11 := q11.trans hh9
    have c12 : Steps p.tables e below (s₁.setTop (entryFrame m #[.ref x, .ref y] 3)) (T11.setTop (mkF m 33 #[.val (.ref x), .val (.ref y), .val (.ref y)] [.int cd', .int cd])) := c10.trans (st11 _ (Steps.refl _))
    by_cases hcd : cd = cd'
    · subst hcd
      have c13 : Steps p.tables e below (s₁.setTop (entryFrame m #[.ref x, .ref y] 3)) (T11.setTop (mkF m 37 #[.val (.ref x), .val (.ref y), .val (.ref y)] [.ref x])) := c12.trans (by
        refine XS.icmpNo X11.here hexec rfl (hb hbytes d33) rfl (ii_ne_f rfl) ?_
        refine XS.aloadN X11.here hexec rfl (hb hbytes d36) rfl rfl ?_
        exact Steps.refl _)
      obtain ⟨T14, X14, q14, st14⟩ := X11.hget hexec hown (wk W (.fieldLink "java/lang/String" 9 "java/lang/String" "value" "[B")) (hx.mv X11.warmed.alike hh11).2.1 (g := (mkF m 37 #[.val (.ref x), .val (.ref y), .val (.ref y)] [.ref x])) rfl (rest := []) rfl (hb hbytes d37)
      have hh14 := q14.trans hh11
      have c15 : Steps p.tables e below (s₁.setTop (entryFrame m #[.ref x, .ref y] 3)) (T14.setTop (mkF m 41 #[.val (.ref x), .val (.ref y), .val (.ref y)] [.ref y, .ref t])) := (c13.trans (st14 _ (Steps.refl _))).trans (by
        refine XS.aloadN X14.here hexec rfl (hb hbytes d40) rfl rfl ?_
        exact Steps.refl _)
      obtain ⟨T16, X16, q16, st16⟩ := X14.hget hexec hown (wk W (.fieldLink "java/lang/String" 9 "java/lang/String" "value" "[B")) (hy.mv X14.warmed.alike hh14).2.1 (g := (mkF m 41 #[.val (.ref x), .val (.ref y), .val (.ref y)] [.ref y, .ref t])) rfl (rest := [.ref t]) rfl (hb hbytes d41)
      have hh16 := q16.trans hh14
      have c17 : Steps p.tables e below (s₁.setTop (entryFrame m #[.ref x, .ref y] 3)) (T16.setTop (mkF m 44 #[.val (.ref x), .val (.ref y), .val (.ref y)] [.ref t', .ref t])) := c15.trans (st16 _ (Steps.refl _))
      obtain ⟨v18, T18, X18, E18, g18⟩ := X16.callS hexec (LEq.law l t V t' V') hown (wks W (staticW "java/lang/String" 541 LEq.yN)) (wk W LEq.tab) (W := 0) (Nat.le_of_ble_eq_true rfl) (Nat.le_of_ble_eq_true rfl) (Nat.le_refl _) (Nat.le_refl _) (g := (mkF m 44 #[.val (.ref x), .val (.ref y), .val (.ref y)] [.ref t', .ref t])) rfl (by rw [hml]; rfl) c17 (argsL := [.ref t, .ref t']) (rest := []) rfl rfl (by show 2 * 0 + 0 ≤ _; decide) (hb hbytes d44) (⟨rfl, hx.2.2.2.1.mv X16.warmed.alike hh16, hx.2.2.2.2.1.ty, hy.2.2.2.1.mv X16.warmed.alike hh16, hy.2.2.2.2.1.ty⟩)
      obtain ⟨v, rfl, q18, hv⟩ := E18
      have iff := Cod.eqv hx.2.2.2.2.1 hy.2.2.2.2.1 hx.2.2.2.2.2 hy.2.2.2.2.2
      rcases hv with ⟨rfl, he⟩ | ⟨rfl, he⟩
      · have c19 : Steps p.tables e below (s₁.setTop (entryFrame m #[.ref x, .ref y] 3)) (T18.setTop (mkF m 55 #[.val (.ref x), .val (.ref y), .val (.ref y)] [.int 1])) := Steps.trans g18 (by
          refine XS.ifNo X18.here hexec rfl (hb hbytes d47) rfl (i0_eq_f (by decide)) ?_
          refine iconstV X18.here hexec rfl 1 (hb hbytes d50) (by decide) ?_
          refine XS.goto X18.here hexec rfl (pc0 := 51) rfl (hb hbytes d51) (by decide) rfl ?_
          exact Steps.refl _)
        exact ⟨T18, some (.int 1), _, _, _, X18, rfl, rfl, rfl, (fun h => by cases h), ⟨1, rfl, q18.trans hh16, Or.inl ⟨rfl, iff.mp he⟩⟩, fun fs hl => c19.trans (X18.ireturnOut hexec hret rfl (Or.inr (Or.inl rfl)) (hb hbytes d55) hl)⟩
      · have c19 : Steps p.tables e below (s₁.setTop (entryFrame m #[.ref x, .ref y] 3)) (T18.setTop (mkF m 55 #[.val (.ref x), .val (.ref y), .val (.ref y)] [.int 0])) := Steps.trans g18 (by
          refine XS.ifYes X18.here hexec rfl (pc0 := 47) rfl (hb hbytes d47) rfl (i0_eq_t rfl) (by decide) rfl ?_
          refine iconstV X18.here hexec rfl 0 (hb hbytes d54) (by decide) ?_
          exact Steps.refl _)
        exact ⟨T18, some (.int 0), _, _, _, X18, rfl, rfl, rfl, (fun h => by cases h), ⟨0, rfl, q18.trans hh16, Or.inr ⟨rfl, fun q => he (iff.mpr q)⟩⟩, fun fs hl => c19.trans (X18.ireturnOut hexec hret rfl (Or.inr (Or.inl rfl)) (hb hbytes d55) hl)⟩
    · have c13 : Steps p.tables e below (s₁.setTop (entryFrame m #[.ref x, .ref y] 3)) (T11.setTop (mkF m 55 #[.val (.ref x), .val (.ref y), .val (.ref y)] [.int 0])) := c12.trans (by
        refine XS.icmpYes X11.here hexec rfl (pc0 := 33) rfl (hb hbytes d33) rfl (ii_ne_t hcd) (by decide) rfl ?_
        refine iconstV X11.here hexec rfl 0 (hb hbytes d54) (by decide) ?_
        exact Steps.refl _)
      exact ⟨T11, some (.int 0), _, _, _, X11, rfl, rfl, rfl, (fun h => by cases h), ⟨0, rfl, hh11, Or.inr ⟨rfl, Cod.dif hx.2.2.2.2.1 hy.2.2.2.2.1 hcd⟩⟩, fun fs hl => c13.trans (X11.ireturnOut hexec hret rfl (Or.inr (Or.inl rfl)) (hb hbytes d55) hl)⟩
theorem pays {l : Launch} {R : Room} {p : Program} {e : Env} {below : List Frame} {s : State} {sargs : Array Value} {len W : Nat} (x t : Addr) (V : Cell) (cd : Int32) (n : Nat) (f : Nat → Int32) (y t' : Addr) (V' : Cell) (cd' : Int32) (k : Nat) (g : Nat → Int32) (z : Int32) (htab : tab.before sargs s = true) (hfr : 2 ≤ R.frames) (hlo : W + 28 ≤ R.locals) :
    Back l R p e below s sargs yN len W (fun A₁ a₁ => A₁.cells + 0 ≤ R.cells ∧ A₁.slots + 0 ≤ R.slots ∧ P x t V cd n f y t' V' cd' k g z a₁ A₁.U) (fun A₁ _ v₁ B₁ => Says01 (SameT n f k g) v₁ A₁.U B₁.U ∧ B₁.locs = A₁.locs ++ [] ∧ B₁.cells = A₁.cells + 0 ∧ B₁.slots = A₁.slots + 0) :=
  (law l x t V cd n f y t' V' cd' k g z).pays htab hfr (by omega)
end SEq
end StrChars
namespace StrChars.Road
open Jvm Sem ClassFile Op Lib Jvm.Stand Jvm.Free Jvm.Free.XT
open Jvm.Lib.Cold (StaticIs)
/-- the words of String.equals(Object) -/
abbrev wordsEq : List Jvm.Cond := [.code SEq.yN SEq.yB 3 (some .boolean), .initialized ST, .classLink ST 10 ST, .fieldLink ST 38 ST "COMPACT_STRINGS" "Z", .fieldLink ST 15 ST "coder" "B", .fieldLink ST 9 ST "value" "[B", .methodLink ST 541 LEq.yN, .static LEq.yN, .code LEq.yN LEq.yB 3 (some .boolean), .initialized "java/lang/StringLatin1"]
theorem tabEq_of {a : Array Value} {s : State} (h : ∀ w ∈ wordsEq, w.before a s = true) : SEq.tab.before a s = true := by
  have hl : LEq.tab.before a s = true := unparts (wk h (.code LEq.yN LEq.yB 3 (some .boolean))) (wks h (.initialized LEq.yN.cls :: LEq.site))
  have q := consq hl h
  exact unparts (wk q (.code SEq.yN SEq.yB 3 (some .boolean))) (wks q (.initialized SEq.yN.cls :: SEq.site))
theorem movedEq {Z s : State} {a0 args : Array Value} (hZ : Z.Warmed39 s.vm) (hw : ∀ d ∈ wordsEq, d.before a0 Z = true) : ∀ d ∈ wordsEq, d.before args s = true := fun d hd => by
  have t : ∀ d ∈ wordsEq, (d.onTables && d.keepsFace) = true := by decide +kernel
  exact RoadKit.mv hZ (hw d hd) (t d hd)
/-- the road's facts of a String, as the laws ask it -/
theorem txt_of {Z U : State} {a0 : Array Value} {kI : Nat} (wi : (Jvm.Cond.instantiable ST kI).before a0 Z = true) (al : Z.vm.Alike U.vm) {x t : Addr} {kb : ClassId} {cs : List Int32} {cd N2 : Int32} {vs : List Value} (E : RoadKit.Exa Z U.heap x ST) (V : RoadKit.Fld Z U.heap x ST "value" "[B" (.ref t)) (C : RoadKit.Fld Z U.heap x ST "coder" "B" (.int cd)) (K : RoadKit.Arv Z U.heap t kb .byte N2 vs (.int 0)) (hc : CodA cs cd N2 vs) (hb : ∀ c ∈ cs, ¬ c < 0 ∧ ¬ (65535 : Int32) < c) (l2 : cs.length ≤ 4000) :
    ∃ A, Txt x t A cd cs.length (fun j => cs.getD j 0) U := by
  obtain ⟨A, K1, K2, K3, K4, K5, K6⟩ := K
  have hcod := hc.cod (by omega) K3 K5
  obtain ⟨D, fV, fC, hB, F1, F2, g1, g2, -, -⟩ := strObj wi al E V C
  exact ⟨A, ⟨_, hB.2.2.1, D, hB.1, rfl, by cases q : D.vm <;> first | rfl | exact absurd q (hB.2.1.2 _)⟩, Has.of hB F1 g1, Has.of hB F2 g2, ⟨K1.1, State.isArrayOf_alike al K1.2.1, K1.2.2, by rcases hcod with ⟨-, q, -⟩ | ⟨-, q, -⟩ <;> omega⟩, hcod, fun j hj => by
    have e : cs.getD j 0 = cs[j] := by simp [List.getD_eq_getElem?_getD, hj]
    show ¬ cs.getD j 0 < 0 ∧ ¬ 65535 < cs.getD j 0
    rw [e]; exact hb _ (List.getElem_mem _)⟩
theorem same_list (cs ds : List Int32) : SameT cs.length (fun j => cs.getD j 0) ds.length (fun j => ds.getD j 0) ↔ cs = ds := by
  constructor
  · rintro ⟨e, q⟩
    refine List.ext_getElem e fun j h1 h2 => ?_
    have := q j h1
    simpa [List.getD_eq_getElem?_getD, h1, h2] using this
  · rintro rfl
    exact ⟨rfl, fun _ _ => rfl⟩
/-- **equals(Object) OF TWO SUCH STRINGS**: 1 just where the chars are the same -/
theorem eqW {p : Program} {l : Launch} {e : Env} {R : Room} {s : State} {args : Array Value} {below : List Frame} {len W : Nat} {Z : State} {a0 : Array Value} {h : Heap} (hZ : Z.Warmed39 s.vm) (hw : ∀ d ∈ wordsEq, d.before a0 Z = true) {kI : Nat} (wi : (Jvm.Cond.instantiable ST kI).before a0 Z = true)
    {x t : Addr} {kb : ClassId} {cs : List Int32} {cd N2 : Int32} {vs : List Value} (E : RoadKit.Exa Z h x ST) (V : RoadKit.Fld Z h x ST "value" "[B" (.ref t)) (C : RoadKit.Fld Z h x ST "coder" "B" (.int cd)) (K : RoadKit.Arv Z h t kb .byte N2 vs (.int 0)) (hc : CodA cs cd N2 vs) (hb : ∀ c ∈ cs, ¬ c < 0 ∧ ¬ (65535 : Int32) < c) (l2 : cs.length ≤ 4000)
    {y t' : Addr} {kb' : ClassId} {ds : List Int32} {cd' N2' : Int32} {vs' : List Value} (E' : RoadKit.Exa Z h y ST) (V' : RoadKit.Fld Z h y ST "value" "[B" (.ref t')) (C' : RoadKit.Fld Z h y ST "coder" "B" (.int cd')) (K' : RoadKit.Arv Z h t' kb' .byte N2' vs' (.int 0)) (hc' : CodA ds cd' N2' vs') (hb' : ∀ c ∈ ds, ¬ c < 0 ∧ ¬ (65535 : Int32) < c) (l2' : ds.length ≤ 4000)
    {z : Int32} (S : RoadKit.Sta Z h ST "COMPACT_STRINGS" "Z" (.int z)) (hz : ¬ z = 0) (hfr : 2 ≤ R.frames) (hlo : W + 28 ≤ R.locals) :
    Back l R p e below s args (⟨"java/lang/String", "equals", "(Ljava/lang/Object;)Z"⟩ : MethodName) len W (fun P a => a = #[.ref x, .ref y] ∧ P.U.heap = h ∧ P.cells + 0 ≤ R.cells ∧ P.slots + 0 ≤ R.slots)
      (fun P _ v B => ∃ L, (((v = some (.int 1) ∧ cs = ds) ∨ (v = some (.int 0) ∧ ¬ cs = ds)) ∧ L = [] ∧ B.U.heap = h) ∧ B.locs = P.locs ++ L ∧ B.cells = P.cells + 0 ∧ B.slots = P.slots + 0) := by
  intro m meth c P g ig mk a X hg hsize hdg hW hn hp'
  obtain ⟨rfl, rfl, r1, r2⟩ := hp'
  have al : Z.vm.Alike P.U.vm := hZ.alike.trans X.warmed.alike
  obtain ⟨A, hx⟩ := txt_of wi al E V C K hc hb l2
  obtain ⟨A', hy⟩ := txt_of wi al E' V' C' K' hc' hb' l2'
  obtain ⟨v, B, X', ⟨⟨w, hv, hh, hq⟩, hl, hk, hs⟩, st⟩ := SEq.pays x t A cd cs.length (fun j => cs.getD j 0) y t' A' cd' ds.length (fun j => ds.getD j 0) z (tabEq_of (movedEq hZ hw)) hfr hlo m meth c P g ig mk _ X hg hsize hdg hW hn ⟨r1, r2, rfl, hx, hy, sta_is al S, hz⟩
  refine ⟨v, B, X', ⟨[], ⟨?_, rfl, hh⟩, hl, hk, hs⟩, st⟩
  rcases hq with ⟨rfl, q⟩ | ⟨rfl, q⟩
  · exact Or.inl ⟨hv, (same_list cs ds).mp q⟩
  · exact Or.inr ⟨hv, fun e => q ((same_list cs ds).mpr e)⟩
end StrChars.Road
namespace StrChars
open Jvm Sem ClassFile Op Lib Jvm.Stand Jvm.Free.XT Jvm.Free.ALB Jvm.Free.JM Jvm.Free
open Jvm.Lib.Cold (StaticIs)
namespace ChN
def yN : MethodName := ⟨"java/lang/String", "charAt", "(I)C"⟩
abbrev yB : ByteArray := jdk_42_method_56_code
theorem d0 : decode yB 0 = .ok (.aload_n 0, 1) := by decide +kernel
theorem d1 : decode yB 1 = .ok (.invokevirtual 492, 3) := by decide +kernel
theorem d4 : decode yB 4 = .ok (.ifCond (.eq) 12, 3) := by decide +kernel
theorem d7 : decode yB 7 = .ok (.aload_n 0, 1) := by decide +kernel
theorem d8 : decode yB 8 = .ok (.getfield 9, 3) := by decide +kernel
theorem d11 : decode yB 11 = .ok (.iload_n 1, 1) := by decide +kernel
theorem d12 : decode yB 12 = .ok (.invokestatic 495, 3) := by decide +kernel
theorem d15 : decode yB 15 = .ok (.ireturn, 1) := by decide +kernel
def site : List Cond := [.fieldLink "java/lang/String" 9 "java/lang/String" "value" "[B", IsL.tab, LChA.tab] ++ virtW "java/lang/String" 492 "java/lang/String" IsL.yN IsL.yN ++ staticW "java/lang/String" 495 LChA.yN
def tab : Cond := tabOf yN yB 2 (some .char) site
def P (x t : Addr) (V : Cell) (n : Nat) (f : Nat → Int32) (z : Int32) (fm : Value) (i : Nat) (args : Array Value) (s : State) : Prop := args = #[.ref x, .int (Int32.ofNat i)] ∧ Txt x t V 0 n f s ∧ i < n ∧ StaticIs s "java/lang/String" "COMPACT_STRINGS" "Z" (.int z) ∧ ¬ z = 0 ∧ StaticIs s "jdk/internal/util/Preconditions" "SIOOBE_FORMATTER" "Ljava/util/function/BiFunction;" fm ∧ fm.isRef = true
def E (f : Nat → Int32) (i : Nat) (r : Option Value) (s u : State) : Prop := XT.PureE (some (.int (f i))) r s u
/-- charAt(i) of a Latin-1 String of n chars, i < n: f i -/
theorem law (l : Launch) (x t : Addr) (V : Cell) (n : Nat) (f : Nat → Int32) (z : Int32) (fm : Value) (i : Nat) : Law l yN 2 1 3 40 yB 2 (some .char) site (P x t V n f z fm i) (E f i) [] 0 0 := by
  refine Law.of_walk (plainFor_of_name (by decide +kernel)) (by decide +kernel) (by decide +kernel) (by decide) (fun _ _ h => by rw [h.1]; rfl) (fun _ U U' hal hh h => ⟨h.1, h.2.1.mv hal hh, h.2.2.1, h.2.2.2.1.there hal hh, h.2.2.2.2.1, h.2.2.2.2.2.1.there hal hh, h.2.2.2.2.2.2⟩) (fun r U U' V V' h1 hal h2 h => XT.PureE.mv r U U' V V' h1 hal h2 h) ?_
  intro p e s m args below meth c s₁ X0 hexec hbytes hml hret hlk hnm hown hh0 W hP
  obtain ⟨rfl, hx, hi, s1, hz, s3, rf⟩ := hP
  have v31 := hx.2.2.2.1.2.2.2
  have hr := hx.2.2.2.2.2 i hi
  have hx0 := hx.mv X0.warmed.alike hh0
  have c1 : Steps p.tables e below (s₁.setTop (entryFrame m #[.ref x, .int (Int32.ofNat i)] 2)) (s₁.setTop (mkF m 1 #[.val (.ref x), .val (.int (Int32.ofNat i))] [.ref x])) := Steps.trans (entry rfl) (by
    show Steps p.tables e below (s₁.setTop (mkF m 0 #[.val (.ref x), .val (.int (Int32.ofNat i))] [])) _
    refine XS.aloadN X0.here hexec rfl (hb hbytes d0) rfl rfl ?_
    exact Steps.refl _)
  obtain ⟨v2, T2, X2, E2, g2⟩ := X0.callV hexec (IsL.law l x 0 z) hown (wks W (virtW "java/lang/String" 492 "java/lang/String" IsL.yN IsL.yN)) rfl (by decide) (wk W IsL.tab) (W := 0) (Nat.le_of_ble_eq_true rfl) (Nat.le_of_ble_eq_true rfl) (Nat.le_refl _) (Nat.le_refl _) (hx0.1.fc X0.warmed.alike) hx0.1.is (g := (mkF m 1 #[.val (.ref x), .val (.int (Int32.ofNat i))] [.ref x])) rfl (by rw [hml]; rfl) c1 (argsL := []) (rest := []) rfl rfl (by show 2 * 0 + 0 ≤ _; decide) (hb hbytes d1) (⟨rfl, hx0.2.2.1, hx.2.2.2.2.1.cd, s1.there X0.warmed.alike hh0, hz⟩)
  obtain ⟨rfl, q2⟩ := E2
  have hh2 := q2.trans hh0
  have hx2 := hx.mv X2.warmed.alike hh2
  obtain ⟨-, k1, k2⟩ | ⟨k0, -⟩ := hx.2.2.2.2.1
  · have c3 : Steps p.tables e below (s₁.setTop (entryFrame m #[.ref x, .int (Int32.ofNat i)] 2)) (T2.setTop (mkF m 8 #[.val (.ref x), .val (.int (Int32.ofNat i))] [.ref x])) := Steps.trans g2 (by
      refine XS.ifNo X2.here hexec rfl (hb hbytes d4) rfl (i0_eq_f (by decide)) ?_
      refine XS.aloadN X2.here hexec rfl (hb hbytes d7) rfl rfl ?_
      exact Steps.refl _)
    obtain ⟨T4, X4, q4, st4⟩ := X2.hget hexec hown (wk W (.fieldLink "java/lang/String" 9 "java/lang/String" "value" "[B")) hx2.2.1 (g := (mkF m 8 #[.val (.ref x), .val (.int (Int32.ofNat i))] [.ref x])) rfl (rest := []) rfl (hb hbytes d8)
    have hh4 := q4.trans hh2
    have c5 : Steps p.tables e below (s₁.setTop (entryFrame m #[.ref x, .int (Int32.ofNat i)] 2)) (T4.setTop (mkF m 12 #[.val (.ref x), .val (.int (Int32.ofNat i))] [.int (Int32.ofNat i), .ref t])) := (c3.trans (st4 _ (Steps.refl _))).trans (by
      refine XS.iloadN X4.here hexec rfl (hb hbytes d11) rfl ?_
      exact Steps.refl _)
    obtain ⟨v6, T6, X6, E6, g6⟩ := X4.callS hexec (LChA.law l t V i (lo8 (f i)) fm) hown (wks W (staticW "java/lang/String" 495 LChA.yN)) (wk W LChA.tab) (W := 0) (Nat.le_of_ble_eq_true rfl) (Nat.le_of_ble_eq_true rfl) (Nat.le_refl _) (Nat.le_refl _) (g := (mkF m 12 #[.val (.ref x), .val (.int (Int32.ofNat i))] [.int (Int32.ofNat i), .ref t])) rfl (by rw [hml]; rfl) c5 (argsL := [.ref t, .int (Int32.ofNat i)]) (rest := []) rfl rfl (by show 2 * 0 + 0 ≤ _; decide) (hb hbytes d12) (⟨rfl, hx.2.2.2.1.mv X4.warmed.alike hh4, (k2 i hi).1, s3.there X4.warmed.alike hh4, rf⟩)
    obtain ⟨rfl, q6⟩ := E6
    rw [chr8_lo8 hr.1 (k2 i hi).2] at g6
    exact ⟨T6, some (.int (f i)), _, _, _, X6, rfl, rfl, rfl, (fun h => by cases h), ⟨rfl, q6.trans hh4⟩, fun fs hl => Steps.trans g6 (X6.ireturnOut hexec hret (narrow_ch hr.1 hr.2) (Or.inr (Or.inr (Or.inr (Or.inl rfl)))) (hb hbytes d15) hl)⟩
  · exact absurd k0 (by decide)
theorem pays {l : Launch} {R : Room} {p : Program} {e : Env} {below : List Frame} {s : State} {sargs : Array Value} {len W : Nat} (x t : Addr) (V : Cell) (n : Nat) (f : Nat → Int32) (z : Int32) (fm : Value) (i : Nat) (htab : tab.before sargs s = true) (hfr : 4 ≤ R.frames) (hlo : W + 53 ≤ R.locals) :
    Back l R p e below s sargs yN len W (fun A₁ a₁ => A₁.cells + 0 ≤ R.cells ∧ A₁.slots + 0 ≤ R.slots ∧ P x t V n f z fm i a₁ A₁.U) (fun A₁ _ v₁ B₁ => E f i v₁ A₁.U B₁.U ∧ B₁.locs = A₁.locs ++ [] ∧ B₁.cells = A₁.cells + 0 ∧ B₁.slots = A₁.slots + 0) :=
  (law l x t V n f z fm i).pays htab hfr (by omega)
end ChN
end StrChars
namespace StrChars.Road
open Jvm Sem ClassFile Op Lib Jvm.Stand Jvm.Free Jvm.Free.XT
open Jvm.Lib.Cold (StaticIs)
/-- the words of String.charAt(int), the Latin-1 road alone -/
abbrev wordsChN : List Jvm.Cond := [.code ChN.yN ChN.yB 2 (some .char), .initialized ST, .fieldLink ST 9 ST "value" "[B", .fieldLink ST 38 ST "COMPACT_STRINGS" "Z", .fieldLink ST 15 ST "coder" "B", .code IsL.yN IsL.yB 1 (some .boolean), .methodLink ST 492 IsL.yN, .declares IsL.yN, .selects ST IsL.yN IsL.yN, .instanceMethod IsL.yN,
  .methodLink ST 495 LChA.yN, .static LChA.yN, .code LChA.yN LChA.yB 2 (some .char), .initialized "java/lang/StringLatin1", .methodLink "java/lang/StringLatin1" 9 JO.Str_checkIndex.yN, .static JO.Str_checkIndex.yN, .code JO.Str_checkIndex.yN JO.Str_checkIndex.yB 2 none,
  .fieldLink ST 1053 "jdk/internal/util/Preconditions" "SIOOBE_FORMATTER" "Ljava/util/function/BiFunction;", .methodLink ST 1059 JC.PreCheck.yN, .static JC.PreCheck.yN, .code JC.PreCheck.yN JC.PreCheck.yB 3 (some .int), .initialized "jdk/internal/util/Preconditions"]
theorem tabChN_of {a : Array Value} {s : State} (h : ∀ w ∈ wordsChN, w.before a s = true) : ChN.tab.before a s = true := by
  have hp : JC.PreCheck.tab.before a s = true := unparts (wk h (.code JC.PreCheck.yN JC.PreCheck.yB 3 (some .int))) (wks h (.initialized JC.PreCheck.yN.cls :: JC.PreCheck.site))
  have qk := consq hp h
  have hk : JO.Str_checkIndex.tab.before a s = true := unparts (wk qk (.code JO.Str_checkIndex.yN JO.Str_checkIndex.yB 2 none)) (wks qk (.initialized JO.Str_checkIndex.yN.cls :: JO.Str_checkIndex.site))
  have ql := consq hk h
  have hl : LChA.tab.before a s = true := unparts (wk ql (.code LChA.yN LChA.yB 2 (some .char))) (wks ql (.initialized LChA.yN.cls :: LChA.site))
  have hi : IsL.tab.before a s = true := unparts (wk h (.code IsL.yN IsL.yB 1 (some .boolean))) (wks h (.initialized IsL.yN.cls :: IsL.site))
  have q := consq hi (consq hl h)
  exact unparts (wk q (.code ChN.yN ChN.yB 2 (some .char))) (wks q (.initialized ChN.yN.cls :: ChN.site))
theorem movedChN {Z s : State} {a0 args : Array Value} (hZ : Z.Warmed39 s.vm) (hw : ∀ d ∈ wordsChN, d.before a0 Z = true) : ∀ d ∈ wordsChN, d.before args s = true := fun d hd => by
  have t : ∀ d ∈ wordsChN, (d.onTables && d.keepsFace) = true := by decide +kernel
  exact RoadKit.mv hZ (hw d hd) (t d hd)
/-- **charAt(i) OF A LATIN-1 STRING**, i < n: the char -/
theorem chN {p : Program} {l : Launch} {e : Env} {R : Room} {s : State} {args : Array Value} {below : List Frame} {len W : Nat} {Z : State} {a0 : Array Value} {h : Heap} (hZ : Z.Warmed39 s.vm) (hw : ∀ d ∈ wordsChN, d.before a0 Z = true) {kI : Nat} (wi : (Jvm.Cond.instantiable ST kI).before a0 Z = true)
    {x t : Addr} {kb : ClassId} {cs : List Int32} {N2 z : Int32} {vs : List Value} {fm : Value} {i : Nat} {j : Int32} (E : RoadKit.Exa Z h x ST) (V : RoadKit.Fld Z h x ST "value" "[B" (.ref t)) (C : RoadKit.Fld Z h x ST "coder" "B" (.int 0)) (K : RoadKit.Arv Z h t kb .byte N2 vs (.int 0)) (hc : CodA cs 0 N2 vs) (hb : ∀ c ∈ cs, ¬ c < 0 ∧ ¬ (65535 : Int32) < c)
    (S : RoadKit.Sta Z h ST "COMPACT_STRINGS" "Z" (.int z)) (hz : ¬ z = 0) (F : RoadKit.Sta Z h "jdk/internal/util/Preconditions" "SIOOBE_FORMATTER" "Ljava/util/function/BiFunction;" fm) (rf : fm.isRef = true) (l2 : cs.length ≤ 4000) (hi : i < cs.length) (hj : j = Int32.ofNat i) (hfr : 4 ≤ R.frames) (hlo : W + 53 ≤ R.locals) :
    Back l R p e below s args (⟨"java/lang/String", "charAt", "(I)C"⟩ : MethodName) len W (fun P a => a = #[.ref x, .int j] ∧ P.U.heap = h ∧ P.cells + 0 ≤ R.cells ∧ P.slots + 0 ≤ R.slots)
      (fun P _ v B => ∃ L, (v = some (.int (cs.getD i 0)) ∧ L = [] ∧ B.U.heap = h) ∧ B.locs = P.locs ++ L ∧ B.cells = P.cells + 0 ∧ B.slots = P.slots + 0) := by
  subst hj
  intro m meth c P g ig mk a X hg hsize hdg hW hn hp'
  obtain ⟨rfl, rfl, r1, r2⟩ := hp'
  have al : Z.vm.Alike P.U.vm := hZ.alike.trans X.warmed.alike
  obtain ⟨A, hx⟩ := txt_of wi al E V C K hc hb l2
  obtain ⟨v, B, X', ⟨⟨hv, hh⟩, hl, hk, hs⟩, st⟩ := ChN.pays x t A cs.length (fun j => cs.getD j 0) z fm i (tabChN_of (movedChN hZ hw)) hfr hlo m meth c P g ig mk _ X hg hsize hdg hW hn ⟨r1, r2, rfl, hx, hi, sta_is al S, hz, sta_is al F, rf⟩
  exact ⟨v, B, X', ⟨[], ⟨hv, rfl, hh⟩, hl, hk, hs⟩, st⟩
/-- what backV says of its String, as the contracts of this text ask it: cs's low bytes, coder 0 -/
theorem codOf {cs : List Int32} {n : Nat} (hn : cs.length = n) (hb : ∀ c ∈ cs, ¬ 255 < c) : CodA cs 0 (Int32.ofNat n) ((cs.map lo8).map Value.int) := Or.inl ⟨rfl, by rw [hn], by simp [List.map_map, Function.comp_def], hb⟩
end StrChars.Road
end Jvm.Pilot.@@N@@
namespace Jvm.Pilot.@@N@@
open Jvm Jvm.ClassFile Sem Op Lib Jvm.Free Jvm.Stand Jvm.LawKit Jvm.RoadKit Bundle Jvm.OwK Jvm.Pilot.@@N@@.Jvm.D
theorem wd {a0 : Array Value} {Z : State} (hw : ∀ d ∈ tables_1, d.before a0 Z = true) (k : Nat) {d : Jvm.Cond} (h : tables_1[k]? = some d) : d.before a0 Z = true := hw _ (List.mem_of_getElem? h)
/-- the statics on which the String laws rest -/
def Gl (Z : State) : Prop := (∃ z : Int32, Sta Z Z.heap "java/lang/String" "COMPACT_STRINGS" "Z" (.int z) ∧ ¬ z = 0) ∧ ∃ v : Value, Sta Z Z.heap "jdk/internal/util/Preconditions" "SIOOBE_FORMATTER" "Ljava/util/function/BiFunction;" v ∧ v.isRef = true
section StrCalls
variable {nw : Prop} {EL : List (String × Nat)} {n0 : Nat} {Z : State} {a0 : Array Value} {p : Program} {l : Launch} {e : Env} {R : Room} {s : State} {args : Array Value} {below : List Frame} {h : Heap} {xs : List Addr} {wt : Nat}
theorem newStr (hE : EW Z a0 EL) (hw : ∀ d ∈ tables_1, d.before a0 Z = true) (G : Gl Z) {x b : Addr} {ka : ClassId} {cs : List Int32} (N : NewS Z h x) (A : CArr Z h b ka cs) (hm : n0 ≤ x ∧ x < h.size) (hx : x ∈ xs) (hp : ∀ c ∈ cs, ¬ c < 0 ∧ ¬ (255 : Int32) < c) (l0 : 0 < cs.length) (l2 : cs.length ≤ 4000) (hfr : 4 ≤ R.frames) (hlo : wt + 65 ≤ R.locals) :
    Call nw EL n0 Z xs l R p e below s args (⟨"java/lang/String", "<init>", "([C)V"⟩ : MethodName) 3 wt #[.ref x, .ref b] h 1 cs.length (RN fun h' => Keep h h' [x] ∧ Str Z h' x cs) := by
  obtain ⟨⟨z, O2, P5⟩, -⟩ := G
  have hws : ∀ d ∈ StrChars.Road.words, d.before a0 Z = true := fun d hd => hw d ((by decide +kernel : ∀ d ∈ StrChars.Road.words, d ∈ tables_1) d hd)
  refine Call.of_back hE (Qb := fun v h' Lc => StrChars.Road.QV Z x (Int32.ofNat cs.length) (cs.map fun c => c.toInt8.toInt32) h n0 v h' Lc) (fun vm0 hZ hO => StrChars.Road.backV (s := s.setVm vm0) hZ hws (kI := 4) (wd hw 8 rfl) (cs := cs) (n := cs.length) hm.1 (old_le hO) N.1 N.2.1 N.2.2 A (O2.ext hO.2) P5 rfl rfl l0 l2 hp rfl hfr hlo) (fun v h' Lc hO q => ?_)
  obtain ⟨q1, q2, q3, q4, q5, t, kb, t1, t2, t3, q6, q7⟩ := q
  exact ⟨⟨q1, q3, q4, q5, ⟨t, kb, q6, q7⟩, hp, l2⟩, q2, [x], q3, by simp [hx]⟩
theorem strLen (hE : EW Z a0 EL) (hw : ∀ d ∈ tables_1, d.before a0 Z = true) (G : Gl Z) {x : Addr} {cs : List Int32} (S : Str Z h x cs) (hfr : 2 ≤ R.frames) (hlo : wt + 25 ≤ R.locals) :
    Call nw EL n0 Z xs l R p e below s args (⟨"java/lang/String", "length", "()I"⟩ : MethodName) 3 wt #[.ref x] h 0 0 (RV fun w h' => w = .int (Int32.ofNat cs.length) ∧ h = h') := by
  obtain ⟨⟨z, O2, P5⟩, -⟩ := G
  obtain ⟨E, C, ⟨b, k, V, A⟩, hp, hl⟩ := S
  have hws : ∀ d ∈ StrChars.Road.wordsLen, d.before a0 Z = true := fun d hd => hw d ((by decide +kernel : ∀ d ∈ StrChars.Road.wordsLen, d ∈ tables_1) d hd)
  refine Call.of_back hE (Qb := fun v h' Lc => v = some (.int (Int32.ofNat cs.length)) ∧ Lc = [] ∧ h' = h) (fun vm0 hZ hO => StrChars.Road.lenW (s := s.setVm vm0) hZ hws (kI := 4) (wd hw 8 rfl) E V C A (StrChars.Road.codOf (n := cs.length) rfl (fun c hc => (hp c hc).2)) (up_chars cs hp) (O2.ext hO.2) P5 hl hfr hlo) (fun v h' Lc hO q => ?_)
  obtain ⟨rfl, rfl, rfl⟩ := q
  exact ⟨⟨_, rfl, rfl, rfl⟩, Fr.nil _, [], Keep.refl _ _, fun _ q => nomatch q⟩
theorem strAt (hE : EW Z a0 EL) (hw : ∀ d ∈ tables_1, d.before a0 Z = true) (G : Gl Z) {x : Addr} {cs : List Int32} {j : Int32} (i : Nat) (S : Str Z h x cs) (hi : i < cs.length) (hj : j = Int32.ofNat i) (hfr : 4 ≤ R.frames) (hlo : wt + 53 ≤ R.locals) :
    Call nw EL n0 Z xs l R p e below s args (⟨"java/lang/String", "charAt", "(I)C"⟩ : MethodName) 3 wt #[.ref x, .int j] h 0 0 (RV fun w h' => w = .int (cs.getD i 0) ∧ h = h') := by
  obtain ⟨⟨z, O2, P5⟩, ⟨fm, O4, rf⟩⟩ := G
  obtain ⟨E, C, ⟨b, k, V, A⟩, hp, hl⟩ := S
  have hws : ∀ d ∈ StrChars.Road.wordsChN, d.before a0 Z = true := fun d hd => hw d ((by decide +kernel : ∀ d ∈ StrChars.Road.wordsChN, d ∈ tables_1) d hd)
  refine Call.of_back hE (Qb := fun v h' Lc => v = some (.int (cs.getD i 0)) ∧ Lc = [] ∧ h' = h) (fun vm0 hZ hO => StrChars.Road.chN (s := s.setVm vm0) hZ hws (kI := 4) (wd hw 8 rfl) E V C A (StrChars.Road.codOf (n := cs.length) rfl (fun c hc => (hp c hc).2)) (up_chars cs hp) (O2.ext hO.2) P5 (O4.ext hO.2) rf hl hi hj hfr hlo) (fun v h' Lc hO q => ?_)
  obtain ⟨rfl, rfl, rfl⟩ := q
  exact ⟨⟨_, rfl, rfl, rfl⟩, Fr.nil _, [], Keep.refl _ _, fun _ q => nomatch q⟩
theorem strEq (hE : EW Z a0 EL) (hw : ∀ d ∈ tables_1, d.before a0 Z = true) (G : Gl Z) {x y : Addr} {cs ds : List Int32} (S : Str Z h x cs) (S' : Str Z h y ds) (hfr : 2 ≤ R.frames) (hlo : wt + 28 ≤ R.locals) :
    Call nw EL n0 Z xs l R p e below s args (⟨"java/lang/String", "equals", "(Ljava/lang/Object;)Z"⟩ : MethodName) 3 wt #[.ref x, .ref y] h 0 0 (RV fun w h' => w = .int (if cs = ds then 1 else 0) ∧ h = h') := by
  obtain ⟨⟨z, O2, P5⟩, -⟩ := G
  obtain ⟨E, C, ⟨b, k, V, A⟩, hp, hl⟩ := S
  obtain ⟨E', C', ⟨b', k', V', A'⟩, hp', hl'⟩ := S'
  have hws : ∀ d ∈ StrChars.Road.wordsEq, d.before a0 Z = true := fun d hd => hw d ((by decide +kernel : ∀ d ∈ StrChars.Road.wordsEq, d ∈ tables_1) d hd)
  refine Call.of_back hE (Qb := fun v h' Lc => ((v = some (.int 1) ∧ cs = ds) ∨ (v = some (.int 0) ∧ ¬ cs = ds)) ∧ Lc = [] ∧ h' = h) (fun vm0 hZ hO => StrChars.Road.eqW (s := s.setVm vm0) hZ hws (kI := 4) (wd hw 8 rfl) E V C A (StrChars.Road.codOf (n := cs.length) rfl (fun c hc => (hp c hc).2)) (up_chars cs hp) hl E' V' C' A' (StrChars.Road.codOf (n := ds.length) rfl (fun c hc => (hp' c hc).2)) (up_chars ds hp') hl' (O2.ext hO.2) P5 hfr hlo) (fun v h' Lc hO q => ?_)
  obtain ⟨hv, rfl, rfl⟩ := q
  refine ⟨⟨.int (if cs = ds then 1 else 0), ?_, rfl, rfl⟩, Fr.nil _, [], Keep.refl _ _, fun _ q => nomatch q⟩
  rcases hv with ⟨rfl, q⟩ | ⟨rfl, q⟩
  · rw [if_pos q]
  · rw [if_neg q]
end StrCalls
def EL0 : List (String × Nat) := [("com/example/wheal/wheal/FieldValues$Parameter", 58), ("com/example/wheal/wheal/ParameterUnquotedPinLaw", 24), ("java/lang/String", 7)]
abbrev NW : Prop := False
theorem wS {a0 : Array Value} {Z : State} (hw : ∀ d ∈ tables_1, d.before a0 Z = true) : ∀ a ∈ Bundle.stringAtoms, a.before a0 Z = true := fun d hd => hw d ((by decide +kernel : ∀ d ∈ Bundle.stringAtoms, d ∈ tables_1) d hd)
theorem pn_0 : plainName "java/lang/String" = true := by first | (simp [plainName, overriddenIn]; done) | decide +kernel
theorem d_jdk_42_method_149_0 : Dec jdk_42_method_149_code 0 (.aload_n 0) 1 1 := ⟨by decide +kernel, rfl⟩
theorem d_jdk_42_method_149_1 : Dec jdk_42_method_149_code 1 (.invokespecial 1) 3 4 := ⟨by decide +kernel, rfl⟩
theorem d_jdk_42_method_149_4 : Dec jdk_42_method_149_code 4 (.iload_n 3) 1 5 := ⟨by decide +kernel, rfl⟩
theorem d_jdk_42_method_149_5 : Dec jdk_42_method_149_code 5 (.ifCond .ne 22) 3 8 := ⟨by decide +kernel, rfl⟩
theorem d_jdk_42_method_149_8 : Dec jdk_42_method_149_code 8 (.aload_n 0) 1 9 := ⟨by decide +kernel, rfl⟩
theorem d_jdk_42_method_149_9 : Dec jdk_42_method_149_code 9 (.ldc 7) 2 11 := ⟨by decide +kernel, rfl⟩
theorem d_jdk_42_method_149_11 : Dec jdk_42_method_149_code 11 (.getfield 9) 3 14 := ⟨by decide +kernel, rfl⟩
theorem d_jdk_42_method_149_14 : Dec jdk_42_method_149_code 14 (.putfield 9) 3 17 := ⟨by decide +kernel, rfl⟩
theorem d_jdk_42_method_149_17 : Dec jdk_42_method_149_code 17 (.aload_n 0) 1 18 := ⟨by decide +kernel, rfl⟩
theorem d_jdk_42_method_149_18 : Dec jdk_42_method_149_code 18 (.ldc 7) 2 20 := ⟨by decide +kernel, rfl⟩
theorem d_jdk_42_method_149_20 : Dec jdk_42_method_149_code 20 (.getfield 15) 3 23 := ⟨by decide +kernel, rfl⟩
theorem d_jdk_42_method_149_23 : Dec jdk_42_method_149_code 23 (.putfield 15) 3 26 := ⟨by decide +kernel, rfl⟩
theorem d_jdk_42_method_149_26 : Dec jdk_42_method_149_code 26 (.return_) 1 27 := ⟨by decide +kernel, rfl⟩
set_option maxRecDepth 65536 in
set_option maxHeartbeats 40000000 in
theorem c_s149 (l : Launch) (Z : State) (a0 : Array Value) (hw : ∀ d ∈ tables_1, d.before a0 Z = true) (hE : EW Z a0 EL0) {n0 : Nat} {h0 : Heap} (hO : Old Z n0 h0) {x b : Addr} (hx : n0 ≤ x) (N_x : NewS Z h0 x) :
    Ctr NW EL0 n0 Z [x] l (⟨"java/lang/String", "<init>", "([CIILjava/lang/Void;)V"⟩ : MethodName) jdk_42_method_149_code 6 none ({ frames := 1, cells := 4, slots := 8, locals := 17 } : Room) #[.ref x, .ref b, .int 0, .int 0, .null] h0 (RN fun h => Keep h0 h [x] ∧ Str Z h x []) := by
  refine Ctr.body (plainFor_of_name pn_0) hE hO (fun y q => by cases List.mem_singleton.mp q; exact ⟨hx, N_x.1.lt⟩) (L0 := #[.val (.ref x), .val (.ref b), .val (.int (0 : Int32)), .val (.int (0 : Int32)), .val .null, .unset]) (fun m => by first | (simp [entryFrame, mkF, argsToLocals, Value.category, maxLocals]; done) | rfl) ?_
  intro p e s m below meth c T0 W0
  refine Go.aload_n W0.cx d_jdk_42_method_149_0 (v := (.ref x)) rfl rfl ?_
  refine Go.initObj W0 d_jdk_42_method_149_1 (wd hw 18 rfl) (wd hw 19 rfl) (wd hw 20 rfl) rfl (by decide) (wt := 0) rfl (by decide) ?_
  intro T1 W1
  refine Go.iload_n W1.cx d_jdk_42_method_149_4 (v := (0 : Int32)) rfl ?_
  refine Go.ifne W1.cx d_jdk_42_method_149_5 (by decide) (q := 27) rfl (fun hh => (by first | exact absurd (rfl : (0 : Int32) = 0) hh | exact absurd hh (rfl : (0 : Int32) = 0))) (fun _ => ?_)
  refine Go.aload_n W1.cx d_jdk_42_method_149_8 (v := (.ref x)) rfl rfl ?_
  refine Go.ldcS W1 (fun q => q) d_jdk_42_method_149_9 (wd hw 21 rfl) (wS hw) (by decide) (cs := []) ⟨by decide, by decide +kernel⟩ (by decide) (by decide) (nn := 0) (by decide) (by decide) (cells' := 2) (slots' := 4) rfl rfl (by decide) (by decide) ?_
  intro T2 h2 l2 b2 kb2 W2 E2 A2 C2 V2 B2 X2 S2
  have N2 := N_x.ext E2
  refine Go.getf W2 d_jdk_42_method_149_11 (wd hw 27 rfl) Via.refl V2 ?_
  intro T3 W3
  refine Go.putf W3 d_jdk_42_method_149_14 (wd hw 27 rfl) Via.refl N2.2.1 N2.1 (Or.inr ⟨(wd hw 23 rfl), rfl, rfl⟩) (wd hw 8 rfl) (t := (.array .byte)) (by decide) (v' := (.ref b2)) rfl rfl (by simp) ?_
  intro T4 h4 W4 R4
  have B4 := B2.other R4 (Ne.symm (X2 x (by simp)).2)
  have F4 := N2.2.1.same R4
  have M4 := N2.1.wr R4
  have C4 := N2.2.2.other R4 (Or.inr (slot_ne (Or.inr (wd hw 24 rfl)) (Or.inr (wd hw 23 rfl)) (by decide) (t := .byte) (t' := .array .byte) (by decide) (by decide)))
  have Q4 : Keep h0 h4 [x] := ((Keep.refl h0 [x]).ext E2).wr R4 (Or.inl (by simp))
  refine Go.aload_n W4.cx d_jdk_42_method_149_17 (v := (.ref x)) rfl rfl ?_
  refine Go.ldcS W4 (fun q => q) d_jdk_42_method_149_18 (wd hw 21 rfl) (wS hw) (by decide) (cs := []) ⟨by decide, by decide +kernel⟩ (by decide) (by decide) (nn := 0) (by decide) (by decide) (cells' := 4) (slots' := 8) rfl rfl (by decide) (by decide) ?_
  intro T5 h5 l5 b5 kb5 W5 E5 A5 C5 V5 B5 X5 S5
  refine Go.getf W5 d_jdk_42_method_149_20 (wd hw 28 rfl) Via.refl C5 ?_
  intro T6 W6
  refine Go.putf W6 d_jdk_42_method_149_23 (wd hw 28 rfl) Via.refl (C4.ext E5) (M4.ext E5) (Or.inr ⟨(wd hw 24 rfl), rfl, rfl⟩) (wd hw 8 rfl) (t := .byte) (by decide) (v' := (.int 0)) rfl rfl (by simp) ?_
  intro T7 h7 W7 R7
  have F7 := (F4.ext E5).other R7 (Or.inr (slot_ne (Or.inr (wd hw 23 rfl)) (Or.inr (wd hw 24 rfl)) (by decide) (t := .array .byte) (t' := .byte) (by decide) (by decide)))
  have B7 := (B4.ext E5).other R7 (Ne.symm (X2 x (by simp)).2)
  exact Go.vret W7 d_jdk_42_method_149_26 (by decide) (by decide) ⟨rfl, (Q4.ext E5).wr R7 (Or.inl (by simp)), (M4.ext E5).wr R7, (C4.ext E5).same R7, ⟨b2, kb2, F7, B7⟩, all_nil, by decide⟩
theorem d_jdk_42_method_3_0 : Dec jdk_42_method_3_code 0 (.aload_n 0) 1 1 := ⟨by decide +kernel, rfl⟩
theorem d_jdk_42_method_3_1 : Dec jdk_42_method_3_code 1 (.aload_n 1) 1 2 := ⟨by decide +kernel, rfl⟩
theorem d_jdk_42_method_3_2 : Dec jdk_42_method_3_code 2 (.iconst 0) 1 3 := ⟨by decide +kernel, rfl⟩
theorem d_jdk_42_method_3_3 : Dec jdk_42_method_3_code 3 (.aload_n 1) 1 4 := ⟨by decide +kernel, rfl⟩
theorem d_jdk_42_method_3_4 : Dec jdk_42_method_3_code 4 (.arraylength) 1 5 := ⟨by decide +kernel, rfl⟩
theorem d_jdk_42_method_3_5 : Dec jdk_42_method_3_code 5 (.aconst_null) 1 6 := ⟨by decide +kernel, rfl⟩
theorem d_jdk_42_method_3_6 : Dec jdk_42_method_3_code 6 (.invokespecial 27) 3 9 := ⟨by decide +kernel, rfl⟩
theorem pd_0 : parseMethodDescriptor "([CIILjava/lang/Void;)V" = some ⟨[(.array .char), .int, .int, (.object "java/lang/Void")], none⟩ := by decide +kernel
theorem d_jdk_42_method_3_9 : Dec jdk_42_method_3_code 9 (.return_) 1 10 := ⟨by decide +kernel, rfl⟩
set_option maxRecDepth 65536 in
set_option maxHeartbeats 40000000 in
theorem c_s3 (l : Launch) (Z : State) (a0 : Array Value) (hw : ∀ d ∈ tables_1, d.before a0 Z = true) (hE : EW Z a0 EL0) {n0 : Nat} {h0 : Heap} (hO : Old Z n0 h0) {x b : Addr} {ka : ClassId} (hx : n0 ≤ x) (N_x : NewS Z h0 x) (A : CArr Z h0 b ka []) :
    Ctr NW EL0 n0 Z [x] l (⟨"java/lang/String", "<init>", "([C)V"⟩ : MethodName) jdk_42_method_3_code 2 none ({ frames := 2, cells := 4, slots := 8, locals := 34 } : Room) #[.ref x, .ref b] h0 (RN fun h => Keep h0 h [x] ∧ Str Z h x []) := by
  refine Ctr.body (plainFor_of_name pn_0) hE hO (fun y q => by cases List.mem_singleton.mp q; exact ⟨hx, N_x.1.lt⟩) (L0 := #[.val (.ref x), .val (.ref b)]) (fun m => by first | (simp [entryFrame, mkF, argsToLocals, Value.category, maxLocals]; done) | rfl) ?_
  intro p e s m below meth c T0 W0
  refine Go.aload_n W0.cx d_jdk_42_method_3_0 (v := (.ref x)) rfl rfl ?_
  refine Go.aload_n W0.cx d_jdk_42_method_3_1 (v := (.ref b)) rfl rfl ?_
  refine Go.iconst W0.cx d_jdk_42_method_3_2 (z := (0 : Int32)) rfl ?_
  refine Go.aload_n W0.cx d_jdk_42_method_3_3 (v := (.ref b)) rfl rfl ?_
  refine Go.alen W0 d_jdk_42_method_3_4 A ?_
  refine Go.aconst_null W0.cx d_jdk_42_method_3_5 ?_
  refine Go.invi W0 (Ctr.call (wt := 0) (c_s149 l Z a0 hw hE hO hx N_x) W0.ew (wd hw 17 rfl) (wd hw 9 rfl) (by simp) (by decide) (by decide)) d_jdk_42_method_3_6 rfl (wd hw 14 rfl) (wd hw 15 rfl) (wd hw 17 rfl) (by decide) pd_0 rfl rfl (rest := []) rfl (Nat.le_of_eq rfl) (cells' := 4) (slots' := 8) rfl rfl (by decide) (by decide) ?_
  rintro T1 h1 W1 z1 ⟨K1, S1⟩
  exact Go.vret W1 d_jdk_42_method_3_9 (by decide) (by decide) ⟨rfl, K1, S1⟩
theorem d_jdk_42_method_152_0 : Dec jdk_42_method_152_code 0 (.getstatic 38) 3 3 := ⟨by decide +kernel, rfl⟩
theorem d_jdk_42_method_152_3 : Dec jdk_42_method_152_code 3 (.ifCond .eq 10) 3 6 := ⟨by decide +kernel, rfl⟩
theorem d_jdk_42_method_152_6 : Dec jdk_42_method_152_code 6 (.aload_n 0) 1 7 := ⟨by decide +kernel, rfl⟩
theorem d_jdk_42_method_152_7 : Dec jdk_42_method_152_code 7 (.getfield 15) 3 10 := ⟨by decide +kernel, rfl⟩
theorem d_jdk_42_method_152_10 : Dec jdk_42_method_152_code 10 (.goto 4) 3 13 := ⟨by decide +kernel, rfl⟩
theorem d_jdk_42_method_152_14 : Dec jdk_42_method_152_code 14 (.ireturn) 1 15 := ⟨by decide +kernel, rfl⟩
set_option maxRecDepth 65536 in
set_option maxHeartbeats 40000000 in
theorem c_coder (l : Launch) (Z : State) (a0 : Array Value) (hw : ∀ d ∈ tables_1, d.before a0 Z = true) (hE : EW Z a0 EL0) {n0 : Nat} {h0 : Heap} (hO : Old Z n0 h0) (hG : Gl Z) {a : Addr} {cs : List Int32} (S : Str Z h0 a cs) :
    Ctr NW EL0 n0 Z [] l (⟨"java/lang/String", "coder", "()B"⟩ : MethodName) jdk_42_method_152_code 1 (some .byte) ({ frames := 0, cells := 0, slots := 0, locals := 0 } : Room) #[.ref a] h0 (RV fun w h => w = .int 0 ∧ h0 = h) := by
  refine Ctr.body (plainFor_of_name pn_0) hE hO (fun x q => nomatch q) (L0 := #[.val (.ref a)]) (fun m => by first | (simp [entryFrame, mkF, argsToLocals, Value.category, maxLocals]; done) | rfl) ?_
  intro p e s m below meth c T0 W0
  obtain ⟨⟨zc, O2, P5⟩, -⟩ := id hG
  obtain ⟨Ex, Co, -⟩ := id S
  refine Go.gets W0 d_jdk_42_method_152_0 (wd hw 72 rfl) Via.refl O2 ?_
  intro T1 W1
  refine Go.ifeq W1.cx d_jdk_42_method_152_3 (by decide) (q := 13) rfl (fun hh => (by first | exact absurd P5 hh | exact absurd hh P5)) (fun _ => ?_)
  refine Go.aload_n W1.cx d_jdk_42_method_152_6 (v := (.ref a)) rfl rfl ?_
  refine Go.getf W1 d_jdk_42_method_152_7 (wd hw 28 rfl) Via.refl Co ?_
  intro T2 W2
  refine Go.goto W2.cx d_jdk_42_method_152_10 (by decide) (q := 14) rfl ?_
  exact Go.iret W2 d_jdk_42_method_152_14 (by simp) rfl (by decide) (by decide) ⟨_, rfl, rfl, rfl⟩
theorem pn_1 : plainName "jdk/internal/util/ArraysSupport" = true := by first | (simp [plainName, overriddenIn]; done) | decide +kernel
theorem d_jdk_48_method_14_0 : Dec jdk_48_method_14_code 0 (.iconst 0) 1 1 := ⟨by decide +kernel, rfl⟩
theorem d_jdk_48_method_14_1 : Dec jdk_48_method_14_code 1 (.istore 5) 2 3 := ⟨by decide +kernel, rfl⟩
theorem d_jdk_48_method_14_3 : Dec jdk_48_method_14_code 3 (.iload 4) 2 5 := ⟨by decide +kernel, rfl⟩
theorem d_jdk_48_method_14_5 : Dec jdk_48_method_14_code 5 (.bipush 7) 2 7 := ⟨by decide +kernel, rfl⟩
theorem d_jdk_48_method_14_7 : Dec jdk_48_method_14_code 7 (.if_icmp .le 63) 3 10 := ⟨by decide +kernel, rfl⟩
theorem d_jdk_48_method_14_70 : Dec jdk_48_method_14_code 70 (.iload 5) 2 72 := ⟨by decide +kernel, rfl⟩
theorem d_jdk_48_method_14_72 : Dec jdk_48_method_14_code 72 (.iload 4) 2 74 := ⟨by decide +kernel, rfl⟩
theorem d_jdk_48_method_14_74 : Dec jdk_48_method_14_code 74 (.if_icmp .ge 27) 3 77 := ⟨by decide +kernel, rfl⟩
theorem d_jdk_48_method_14_101 : Dec jdk_48_method_14_code 101 (.iconst (-1)) 1 102 := ⟨by decide +kernel, rfl⟩
theorem d_jdk_48_method_14_102 : Dec jdk_48_method_14_code 102 (.ireturn) 1 103 := ⟨by decide +kernel, rfl⟩
theorem d_jdk_48_method_14_77 : Dec jdk_48_method_14_code 77 (.aload_n 0) 1 78 := ⟨by decide +kernel, rfl⟩
theorem d_jdk_48_method_14_78 : Dec jdk_48_method_14_code 78 (.iload_n 1) 1 79 := ⟨by decide +kernel, rfl⟩
theorem d_jdk_48_method_14_79 : Dec jdk_48_method_14_code 79 (.iload 5) 2 81 := ⟨by decide +kernel, rfl⟩
theorem d_jdk_48_method_14_81 : Dec jdk_48_method_14_code 81 (.iadd) 1 82 := ⟨by decide +kernel, rfl⟩
theorem d_jdk_48_method_14_82 : Dec jdk_48_method_14_code 82 (.baload) 1 83 := ⟨by decide +kernel, rfl⟩
theorem d_jdk_48_method_14_83 : Dec jdk_48_method_14_code 83 (.aload_n 2) 1 84 := ⟨by decide +kernel, rfl⟩
theorem d_jdk_48_method_14_84 : Dec jdk_48_method_14_code 84 (.iload_n 3) 1 85 := ⟨by decide +kernel, rfl⟩
theorem d_jdk_48_method_14_85 : Dec jdk_48_method_14_code 85 (.iload 5) 2 87 := ⟨by decide +kernel, rfl⟩
theorem d_jdk_48_method_14_87 : Dec jdk_48_method_14_code 87 (.iadd) 1 88 := ⟨by decide +kernel, rfl⟩
theorem d_jdk_48_method_14_88 : Dec jdk_48_method_14_code 88 (.baload) 1 89 := ⟨by decide +kernel, rfl⟩
theorem d_jdk_48_method_14_89 : Dec jdk_48_method_14_code 89 (.if_icmp .eq 6) 3 92 := ⟨by decide +kernel, rfl⟩
theorem d_jdk_48_method_14_95 : Dec jdk_48_method_14_code 95 (.iinc 5 1) 3 98 := ⟨by decide +kernel, rfl⟩
theorem d_jdk_48_method_14_98 : Dec jdk_48_method_14_code 98 (.goto (-28)) 3 101 := ⟨by decide +kernel, rfl⟩
theorem d_jdk_48_method_14_92 : Dec jdk_48_method_14_code 92 (.iload 5) 2 94 := ⟨by decide +kernel, rfl⟩
theorem d_jdk_48_method_14_94 : Dec jdk_48_method_14_code 94 (.ireturn) 1 95 := ⟨by decide +kernel, rfl⟩
set_option maxRecDepth 65536 in
set_option maxHeartbeats 40000000 in
theorem c_mis (l : Launch) (Z : State) (a0 : Array Value) (hw : ∀ d ∈ tables_1, d.before a0 Z = true) (hE : EW Z a0 EL0) {n0 : Nat} {h0 : Heap} (hO : Old Z n0 h0) {a b : Addr} {ka kb : ClassId} {cs ds : List Int32} {k : Nat} (A : BArr Z h0 a ka cs) (B : BArr Z h0 b kb ds) (hpc : ∀ c ∈ cs, ¬ c < 0 ∧ ¬ (255 : Int32) < c) (hpd : ∀ c ∈ ds, ¬ c < 0 ∧ ¬ (255 : Int32) < c) (hk : k + ds.length ≤ cs.length) (h7 : ds.length ≤ 7) (hcl : cs.length ≤ 4000) :
    Ctr NW EL0 n0 Z [] l (⟨"jdk/internal/util/ArraysSupport", "mismatch", "([BI[BII)I"⟩ : MethodName) jdk_48_method_14_code 8 (some .int) ({ frames := 0, cells := 0, slots := 0, locals := 0 } : Room) #[.ref a, .int (Int32.ofNat k), .ref b, .int (0 : Int32), .int (Int32.ofNat ds.length)] h0 (RV fun w h => ∃ z : Int32, w = .int z ∧ ((z < 0 ∧ Sw cs k ds) ∨ (¬ z < 0 ∧ ¬ Sw cs k ds)) ∧ h0 = h) := by
  refine Ctr.body (plainFor_of_name pn_1) hE hO (fun x q => nomatch q) (L0 := #[.val (.ref a), .val (.int (Int32.ofNat k)), .val (.ref b), .val (.int (0 : Int32)), .val (.int (Int32.ofNat ds.length)), .unset, .unset, .unset]) (fun m => by first | (simp [entryFrame, mkF, argsToLocals, Value.category, maxLocals]; done) | rfl) ?_
  intro p e s m below meth c T0 W0
  refine Go.iconst W0.cx d_jdk_48_method_14_0 (z := (0 : Int32)) rfl ?_
  refine Go.istore W0.cx d_jdk_48_method_14_1 (L' := #[.val (.ref a), .val (.int (Int32.ofNat k)), .val (.ref b), .val (.int (0 : Int32)), .val (.int (Int32.ofNat ds.length)), .val (.int (0 : Int32)), .unset, .unset]) rfl ?_
  refine Go.iload W0.cx d_jdk_48_method_14_3 (v := (Int32.ofNat ds.length)) rfl ?_
  refine Go.bipush W0.cx d_jdk_48_method_14_5 (z := (7 : Int32)) rfl ?_
  refine Go.icle W0.cx d_jdk_48_method_14_7 (by decide) (q := 70) rfl (fun _ => ?_) (fun hh => (by first | exact absurd (show ¬ (7 : Int32) < Int32.ofNat ds.length from fun q => by have := (lt_nat (a := 7) (by omega) (by omega)).mp q; omega) hh | exact absurd hh (show ¬ (7 : Int32) < Int32.ofNat ds.length from fun q => by have := (lt_nat (a := 7) (by omega) (by omega)).mp q; omega)))
  have loop : ∀ j i, i + j = ds.length → (∀ t, t < i → cs.getD (k + t) 0 = ds.getD t 0) → ∀ (T : State), Wk NW EL0 n0 Z a0 "jdk/internal/util/ArraysSupport" "mismatch" jdk_48_method_14_code 8 (some .int) p l e ({ frames := 0, cells := 0, slots := 0, locals := 0 } : Room) s m #[.ref a, .int (Int32.ofNat k), .ref b, .int (0 : Int32), .int (Int32.ofNat ds.length)] below meth c T h0 [] 0 0 → Go p e below (Endp NW EL0 n0 Z below s ({ frames := 0, cells := 0, slots := 0, locals := 0 } : Room).cells ({ frames := 0, cells := 0, slots := 0, locals := 0 } : Room).slots (RV fun w h => ∃ z : Int32, w = .int z ∧ ((z < 0 ∧ Sw cs k ds) ∨ (¬ z < 0 ∧ ¬ Sw cs k ds)) ∧ h0 = h)) T (mkF m 70 #[.val (.ref a), .val (.int (Int32.ofNat k)), .val (.ref b), .val (.int (0 : Int32)), .val (.int (Int32.ofNat ds.length)), .val (.int (Int32.ofNat i)), .unset, .unset] []) := by
    intro j
    induction j with
    | zero =>
      intro i hi hin T1 W1
      refine Go.iload W1.cx d_jdk_48_method_14_70 (v := (Int32.ofNat i)) rfl ?_
      refine Go.iload W1.cx d_jdk_48_method_14_72 (v := (Int32.ofNat ds.length)) rfl ?_
      refine Go.icge W1.cx d_jdk_48_method_14_74 (by decide) (q := 101) rfl (fun _ => ?_) (fun hh => (by first | exact absurd (show ¬ Int32.ofNat i < Int32.ofNat ds.length by rw [lt_nat (by omega) (by omega)]; omega) hh | exact absurd hh (show ¬ Int32.ofNat i < Int32.ofNat ds.length by rw [lt_nat (by omega) (by omega)]; omega)))
      refine Go.iconst W1.cx d_jdk_48_method_14_101 (z := (-1 : Int32)) rfl ?_
      exact Go.iret W1 d_jdk_48_method_14_102 (by simp) rfl (by decide) (by decide) ⟨_, rfl, _, rfl, Or.inl ⟨by decide, hk, fun t ht => hin t (by omega)⟩, rfl⟩
    | succ j ih =>
      intro i hi hin T1 W1
      refine Go.iload W1.cx d_jdk_48_method_14_70 (v := (Int32.ofNat i)) rfl ?_
      refine Go.iload W1.cx d_jdk_48_method_14_72 (v := (Int32.ofNat ds.length)) rfl ?_
      refine Go.icge W1.cx d_jdk_48_method_14_74 (by decide) (q := 101) rfl (fun hh => (by first | exact absurd (show Int32.ofNat i < Int32.ofNat ds.length by rw [lt_nat (by omega) (by omega)]; omega) hh | exact absurd hh (show Int32.ofNat i < Int32.ofNat ds.length by rw [lt_nat (by omega) (by omega)]; omega))) (fun _ => ?_)
      refine Go.aload_n W1.cx d_jdk_48_method_14_77 (v := (.ref a)) rfl rfl ?_
      refine Go.iload_n W1.cx d_jdk_48_method_14_78 (v := (Int32.ofNat k)) rfl ?_
      refine Go.iload W1.cx d_jdk_48_method_14_79 (v := (Int32.ofNat i)) rfl ?_
      refine Go.iadd W1.cx d_jdk_48_method_14_81 ?_
      refine Go.baload W1 (k + i) d_jdk_48_method_14_82 A (add_nat _ _) (by omega) (by omega) (v := (by8 (cs.getD (k + i) 0))) rfl ?_
      refine Go.aload_n W1.cx d_jdk_48_method_14_83 (v := (.ref b)) rfl rfl ?_
      refine Go.iload_n W1.cx d_jdk_48_method_14_84 (v := (0 : Int32)) rfl ?_
      refine Go.iload W1.cx d_jdk_48_method_14_85 (v := (Int32.ofNat i)) rfl ?_
      refine Go.iadd W1.cx d_jdk_48_method_14_87 ?_
      refine Go.baload W1 i d_jdk_48_method_14_88 B (by rw [show (0 : Int32) = Int32.ofNat 0 from rfl, add_nat, Nat.zero_add]) (by omega) (by omega) (v := (by8 (ds.getD i 0))) rfl ?_
      have hq := by8_inj (getD_ch hpc (i := k + i) (by omega)) (getD_ch hpd (i := i) (by omega))
      refine Go.iceq W1.cx d_jdk_48_method_14_89 (by decide) (q := 95) rfl (fun c1 => ?_) (fun c1 => ?_)
      · refine Go.iinc W1.cx d_jdk_48_method_14_95 (z := (Int32.ofNat (i + 1))) (L' := #[.val (.ref a), .val (.int (Int32.ofNat k)), .val (.ref b), .val (.int (0 : Int32)), .val (.int (Int32.ofNat ds.length)), .val (.int (Int32.ofNat (i + 1))), .unset, .unset]) rfl (add1_nat i) rfl ?_
        refine Go.goto W1.cx d_jdk_48_method_14_98 (by decide) (q := 70) rfl ?_
        exact ih (i + 1) (by omega) (fun t ht => by rcases Nat.lt_or_eq_of_le (Nat.le_of_lt_succ ht) with z | z; exact hin t z; rw [z]; exact hq.mp c1) _ W1
      · refine Go.iload W1.cx d_jdk_48_method_14_92 (v := (Int32.ofNat i)) rfl ?_
        exact Go.iret W1 d_jdk_48_method_14_94 (by simp) rfl (by decide) (by decide) ⟨_, rfl, _, rfl, Or.inr ⟨show ¬ Int32.ofNat i < Int32.ofNat 0 by rw [lt_nat (by omega) (by omega)]; omega, fun z => c1 (hq.mpr (z.2 i (by omega)))⟩, rfl⟩
  exact loop ds.length 0 (by omega) (fun t ht => absurd ht (Nat.not_lt_zero _)) _ W0
theorem d_jdk_42_method_75_0 : Dec jdk_42_method_75_code 0 (.iload_n 2) 1 1 := ⟨by decide +kernel, rfl⟩
theorem d_jdk_42_method_75_1 : Dec jdk_42_method_75_code 1 (.ifCond .lt 16) 3 4 := ⟨by decide +kernel, rfl⟩
theorem d_jdk_42_method_75_17 : Dec jdk_42_method_75_code 17 (.iconst 0) 1 18 := ⟨by decide +kernel, rfl⟩
theorem d_jdk_42_method_75_18 : Dec jdk_42_method_75_code 18 (.ireturn) 1 19 := ⟨by decide +kernel, rfl⟩
set_option maxRecDepth 65536 in
set_option maxHeartbeats 40000000 in
theorem c_swN (l : Launch) (Z : State) (a0 : Array Value) (hw : ∀ d ∈ tables_1, d.before a0 Z = true) (hE : EW Z a0 EL0) {n0 : Nat} {h0 : Heap} (hO : Old Z n0 h0) {a b : Addr} {z : Int32} (hz : z < 0) :
    Ctr NW EL0 n0 Z [] l (⟨"java/lang/String", "startsWith", "(Ljava/lang/String;I)Z"⟩ : MethodName) jdk_42_method_75_code 8 (some .boolean) ({ frames := 2, cells := 0, slots := 0, locals := 27 } : Room) #[.ref a, .ref b, .int z] h0 (RV fun w h => w = .int 0 ∧ h0 = h) := by
  refine Ctr.body (plainFor_of_name pn_0) hE hO (fun x q => nomatch q) (L0 := #[.val (.ref a), .val (.ref b), .val (.int z), .unset, .unset, .unset, .unset, .unset]) (fun m => by first | (simp [entryFrame, mkF, argsToLocals, Value.category, maxLocals]; done) | rfl) ?_
  intro p e s m below meth c T0 W0
  refine Go.iload_n W0.cx d_jdk_42_method_75_0 (v := z) rfl ?_
  refine Go.iflt W0.cx d_jdk_42_method_75_1 (by decide) (q := 17) rfl (fun _ => ?_) (fun hh => (by first | exact absurd hz hh | exact absurd hh hz))
  refine Go.iconst W0.cx d_jdk_42_method_75_17 (z := (0 : Int32)) rfl ?_
  exact Go.iret W0 d_jdk_42_method_75_18 (by simp) rfl (by decide) (by decide) ⟨_, rfl, rfl, rfl⟩
theorem d_jdk_42_method_75_4 : Dec jdk_42_method_75_code 4 (.iload_n 2) 1 5 := ⟨by decide +kernel, rfl⟩
theorem d_jdk_42_method_75_5 : Dec jdk_42_method_75_code 5 (.aload_n 0) 1 6 := ⟨by decide +kernel, rfl⟩
theorem d_jdk_42_method_75_6 : Dec jdk_42_method_75_code 6 (.invokevirtual 505) 3 9 := ⟨by decide +kernel, rfl⟩
theorem pd_1 : parseMethodDescriptor "()I" = some ⟨[], some .int⟩ := by decide +kernel
theorem d_jdk_42_method_75_9 : Dec jdk_42_method_75_code 9 (.aload_n 1) 1 10 := ⟨by decide +kernel, rfl⟩
theorem d_jdk_42_method_75_10 : Dec jdk_42_method_75_code 10 (.invokevirtual 505) 3 13 := ⟨by decide +kernel, rfl⟩
theorem d_jdk_42_method_75_13 : Dec jdk_42_method_75_code 13 (.isub) 1 14 := ⟨by decide +kernel, rfl⟩
theorem d_jdk_42_method_75_14 : Dec jdk_42_method_75_code 14 (.if_icmp .le 5) 3 17 := ⟨by decide +kernel, rfl⟩
theorem d_jdk_42_method_75_19 : Dec jdk_42_method_75_code 19 (.aload_n 0) 1 20 := ⟨by decide +kernel, rfl⟩
theorem d_jdk_42_method_75_20 : Dec jdk_42_method_75_code 20 (.getfield 9) 3 23 := ⟨by decide +kernel, rfl⟩
theorem d_jdk_42_method_75_23 : Dec jdk_42_method_75_code 23 (.astore_n 3) 1 24 := ⟨by decide +kernel, rfl⟩
theorem d_jdk_42_method_75_24 : Dec jdk_42_method_75_code 24 (.aload_n 1) 1 25 := ⟨by decide +kernel, rfl⟩
theorem d_jdk_42_method_75_25 : Dec jdk_42_method_75_code 25 (.getfield 9) 3 28 := ⟨by decide +kernel, rfl⟩
theorem d_jdk_42_method_75_28 : Dec jdk_42_method_75_code 28 (.astore 4) 2 30 := ⟨by decide +kernel, rfl⟩
theorem d_jdk_42_method_75_30 : Dec jdk_42_method_75_code 30 (.iconst 0) 1 31 := ⟨by decide +kernel, rfl⟩
theorem d_jdk_42_method_75_31 : Dec jdk_42_method_75_code 31 (.istore 5) 2 33 := ⟨by decide +kernel, rfl⟩
theorem d_jdk_42_method_75_33 : Dec jdk_42_method_75_code 33 (.aload 4) 2 35 := ⟨by decide +kernel, rfl⟩
theorem d_jdk_42_method_75_35 : Dec jdk_42_method_75_code 35 (.arraylength) 1 36 := ⟨by decide +kernel, rfl⟩
theorem d_jdk_42_method_75_36 : Dec jdk_42_method_75_code 36 (.istore 6) 2 38 := ⟨by decide +kernel, rfl⟩
theorem d_jdk_42_method_75_38 : Dec jdk_42_method_75_code 38 (.aload_n 0) 1 39 := ⟨by decide +kernel, rfl⟩
theorem d_jdk_42_method_75_39 : Dec jdk_42_method_75_code 39 (.invokevirtual 335) 3 42 := ⟨by decide +kernel, rfl⟩
theorem pd_2 : parseMethodDescriptor "()B" = some ⟨[], some .byte⟩ := by decide +kernel
theorem d_jdk_42_method_75_42 : Dec jdk_42_method_75_code 42 (.istore 7) 2 44 := ⟨by decide +kernel, rfl⟩
theorem d_jdk_42_method_75_44 : Dec jdk_42_method_75_code 44 (.iload 7) 2 46 := ⟨by decide +kernel, rfl⟩
theorem d_jdk_42_method_75_46 : Dec jdk_42_method_75_code 46 (.aload_n 1) 1 47 := ⟨by decide +kernel, rfl⟩
theorem d_jdk_42_method_75_47 : Dec jdk_42_method_75_code 47 (.invokevirtual 335) 3 50 := ⟨by decide +kernel, rfl⟩
theorem d_jdk_42_method_75_50 : Dec jdk_42_method_75_code 50 (.if_icmp .ne 32) 3 53 := ⟨by decide +kernel, rfl⟩
theorem d_jdk_42_method_75_53 : Dec jdk_42_method_75_code 53 (.iload 7) 2 55 := ⟨by decide +kernel, rfl⟩
theorem d_jdk_42_method_75_55 : Dec jdk_42_method_75_code 55 (.iconst 1) 1 56 := ⟨by decide +kernel, rfl⟩
theorem d_jdk_42_method_75_56 : Dec jdk_42_method_75_code 56 (.if_icmp .ne 7) 3 59 := ⟨by decide +kernel, rfl⟩
theorem d_jdk_42_method_75_63 : Dec jdk_42_method_75_code 63 (.aload_n 3) 1 64 := ⟨by decide +kernel, rfl⟩
theorem d_jdk_42_method_75_64 : Dec jdk_42_method_75_code 64 (.iload_n 2) 1 65 := ⟨by decide +kernel, rfl⟩
theorem d_jdk_42_method_75_65 : Dec jdk_42_method_75_code 65 (.aload 4) 2 67 := ⟨by decide +kernel, rfl⟩
theorem d_jdk_42_method_75_67 : Dec jdk_42_method_75_code 67 (.iconst 0) 1 68 := ⟨by decide +kernel, rfl⟩
theorem d_jdk_42_method_75_68 : Dec jdk_42_method_75_code 68 (.iload 6) 2 70 := ⟨by decide +kernel, rfl⟩
theorem d_jdk_42_method_75_70 : Dec jdk_42_method_75_code 70 (.invokestatic 607) 3 73 := ⟨by decide +kernel, rfl⟩
theorem pd_3 : parseMethodDescriptor "([BI[BII)I" = some ⟨[(.array .byte), .int, (.array .byte), .int, .int], some .int⟩ := by decide +kernel
theorem d_jdk_42_method_75_73 : Dec jdk_42_method_75_code 73 (.ifCond .ge 7) 3 76 := ⟨by decide +kernel, rfl⟩
theorem d_jdk_42_method_75_80 : Dec jdk_42_method_75_code 80 (.iconst 0) 1 81 := ⟨by decide +kernel, rfl⟩
theorem d_jdk_42_method_75_81 : Dec jdk_42_method_75_code 81 (.ireturn) 1 82 := ⟨by decide +kernel, rfl⟩
theorem d_jdk_42_method_75_76 : Dec jdk_42_method_75_code 76 (.iconst 1) 1 77 := ⟨by decide +kernel, rfl⟩
theorem d_jdk_42_method_75_77 : Dec jdk_42_method_75_code 77 (.goto 4) 3 80 := ⟨by decide +kernel, rfl⟩
set_option maxRecDepth 65536 in
set_option maxHeartbeats 40000000 in
theorem c_sw (l : Launch) (Z : State) (a0 : Array Value) (hw : ∀ d ∈ tables_1, d.before a0 Z = true) (hE : EW Z a0 EL0) {n0 : Nat} {h0 : Heap} (hO : Old Z n0 h0) (hG : Gl Z) {a b : Addr} {cs ds : List Int32} (S : Str Z h0 a cs) (S2 : Str Z h0 b ds) {k : Nat} (hk4 : k ≤ 4000) (h7 : ds.length ≤ 7) :
    Ctr NW EL0 n0 Z [] l (⟨"java/lang/String", "startsWith", "(Ljava/lang/String;I)Z"⟩ : MethodName) jdk_42_method_75_code 8 (some .boolean) ({ frames := 2, cells := 0, slots := 0, locals := 27 } : Room) #[.ref a, .ref b, .int (Int32.ofNat k)] h0 (RV fun w h => ∃ z : Int32, w = .int z ∧ Bo (Sw cs k ds) z ∧ h0 = h) := by
  refine Ctr.body (plainFor_of_name pn_0) hE hO (fun x q => nomatch q) (L0 := #[.val (.ref a), .val (.ref b), .val (.int (Int32.ofNat k)), .unset, .unset, .unset, .unset, .unset]) (fun m => by first | (simp [entryFrame, mkF, argsToLocals, Value.category, maxLocals]; done) | rfl) ?_
  intro p e s m below meth c T0 W0
  have hl1 := S.2.2.2.2
  have hl2 := S2.2.2.2.2
  refine Go.iload_n W0.cx d_jdk_42_method_75_0 (v := (Int32.ofNat k)) rfl ?_
  refine Go.iflt W0.cx d_jdk_42_method_75_1 (by decide) (q := 17) rfl (fun hh => (by first | exact absurd (show ¬ Int32.ofNat k < Int32.ofNat 0 by rw [lt_nat (by omega) (by omega)]; omega) hh | exact absurd hh (show ¬ Int32.ofNat k < Int32.ofNat 0 by rw [lt_nat (by omega) (by omega)]; omega))) (fun _ => ?_)
  refine Go.iload_n W0.cx d_jdk_42_method_75_4 (v := (Int32.ofNat k)) rfl ?_
  refine Go.aload_n W0.cx d_jdk_42_method_75_5 (v := (.ref a)) rfl rfl ?_
  refine Go.invv1 W0 (strLen (wt := 1) W0.ew hw hG S (by decide) (by decide)) d_jdk_42_method_75_6 (wd hw 62 rfl) (wd hw 63 rfl) (wd hw 65 rfl) (wd hw 64 rfl) (by decide) S.exa pd_1 rfl rfl (rest := [(.int (Int32.ofNat k))]) rfl (Nat.le_of_eq rfl) (cells' := 0) (slots' := 0) rfl rfl (by decide) (by decide) ?_
  rintro T1 h1 _ W1 z1 ⟨rfl, e1⟩
  subst e1
  refine Go.aload_n W1.cx d_jdk_42_method_75_9 (v := (.ref b)) rfl rfl ?_
  refine Go.invv1 W1 (strLen (wt := 2) W1.ew hw hG S2 (by decide) (by decide)) d_jdk_42_method_75_10 (wd hw 62 rfl) (wd hw 63 rfl) (wd hw 65 rfl) (wd hw 64 rfl) (by decide) S2.exa pd_1 rfl rfl (rest := [(.int (Int32.ofNat cs.length)), (.int (Int32.ofNat k))]) rfl (Nat.le_of_eq rfl) (cells' := 0) (slots' := 0) rfl rfl (by decide) (by decide) ?_
  rintro T2 h2 _ W2 z2 ⟨rfl, e2⟩
  subst e2
  refine Go.isub W2.cx d_jdk_42_method_75_13 ?_
  have hle : Int32.ofNat cs.length - Int32.ofNat ds.length < Int32.ofNat k ↔ cs.length < k + ds.length := by rw [Int32.lt_iff_toInt_lt, sub_int (by omega) (by omega), toInt_nat (by omega)]; omega
  refine Go.icle W2.cx d_jdk_42_method_75_14 (by decide) (q := 19) rfl (fun c1 => ?_) (fun c1 => ?_)
  · have hk : k + ds.length ≤ cs.length := Nat.not_lt.mp (fun z => c1 (hle.mpr z))
    obtain ⟨-, -, ⟨b1, kb1, V1, B1⟩, hpc, -⟩ := id S
    obtain ⟨-, -, ⟨b2, kb2, V2, B2⟩, hpd, -⟩ := id S2
    refine Go.aload_n W2.cx d_jdk_42_method_75_19 (v := (.ref a)) rfl rfl ?_
    refine Go.getf W2 d_jdk_42_method_75_20 (wd hw 27 rfl) Via.refl V1 ?_
    intro T3 W3
    refine Go.astore_n W3.cx d_jdk_42_method_75_23 (L' := #[.val (.ref a), .val (.ref b), .val (.int (Int32.ofNat k)), .val (.ref b1), .unset, .unset, .unset, .unset]) rfl rfl ?_
    refine Go.aload_n W3.cx d_jdk_42_method_75_24 (v := (.ref b)) rfl rfl ?_
    refine Go.getf W3 d_jdk_42_method_75_25 (wd hw 27 rfl) Via.refl V2 ?_
    intro T4 W4
    refine Go.astore W4.cx d_jdk_42_method_75_28 (L' := #[.val (.ref a), .val (.ref b), .val (.int (Int32.ofNat k)), .val (.ref b1), .val (.ref b2), .unset, .unset, .unset]) rfl rfl ?_
    refine Go.iconst W4.cx d_jdk_42_method_75_30 (z := (0 : Int32)) rfl ?_
    refine Go.istore W4.cx d_jdk_42_method_75_31 (L' := #[.val (.ref a), .val (.ref b), .val (.int (Int32.ofNat k)), .val (.ref b1), .val (.ref b2), .val (.int (0 : Int32)), .unset, .unset]) rfl ?_
    refine Go.aload W4.cx d_jdk_42_method_75_33 (v := (.ref b2)) rfl rfl ?_
    refine Go.alen W4 d_jdk_42_method_75_35 B2 ?_
    refine Go.istore W4.cx d_jdk_42_method_75_36 (L' := #[.val (.ref a), .val (.ref b), .val (.int (Int32.ofNat k)), .val (.ref b1), .val (.ref b2), .val (.int (0 : Int32)), .val (.int (Int32.ofNat ds.length)), .unset]) rfl ?_
    refine Go.aload_n W4.cx d_jdk_42_method_75_38 (v := (.ref a)) rfl rfl ?_
    refine Go.invv1 W4 (Ctr.call (wt := 0) (c_coder l Z a0 hw hE W4.old hG S) W4.ew (wd hw 71 rfl) (wd hw 9 rfl) (by simp) (by decide) (by decide)) d_jdk_42_method_75_39 (wd hw 67 rfl) (wd hw 68 rfl) (wd hw 70 rfl) (wd hw 69 rfl) (by decide) S.exa pd_2 rfl rfl (rest := []) rfl (Nat.le_of_eq rfl) (cells' := 0) (slots' := 0) rfl rfl (by decide) (by decide) ?_
    rintro T5 h5 _ W5 z5 ⟨rfl, e5⟩
    subst e5
    refine Go.istore W5.cx d_jdk_42_method_75_42 (L' := #[.val (.ref a), .val (.ref b), .val (.int (Int32.ofNat k)), .val (.ref b1), .val (.ref b2), .val (.int (0 : Int32)), .val (.int (Int32.ofNat ds.length)), .val (.int (0 : Int32))]) rfl ?_
    refine Go.iload W5.cx d_jdk_42_method_75_44 (v := (0 : Int32)) rfl ?_
    refine Go.aload_n W5.cx d_jdk_42_method_75_46 (v := (.ref b)) rfl rfl ?_
    refine Go.invv1 W5 (Ctr.call (wt := 1) (c_coder l Z a0 hw hE W5.old hG S2) W5.ew (wd hw 71 rfl) (wd hw 9 rfl) (by simp) (by decide) (by decide)) d_jdk_42_method_75_47 (wd hw 67 rfl) (wd hw 68 rfl) (wd hw 70 rfl) (wd hw 69 rfl) (by decide) S2.exa pd_2 rfl rfl (rest := [(.int (0 : Int32))]) rfl (Nat.le_of_eq rfl) (cells' := 0) (slots' := 0) rfl rfl (by decide) (by decide) ?_
    rintro T6 h6 _ W6 z6 ⟨rfl, e6⟩
    subst e6
    refine Go.icne W6.cx d_jdk_42_method_75_50 (by decide) (q := 82) rfl (fun hh => (by first | exact absurd (rfl : (0 : Int32) = 0) hh | exact absurd hh (rfl : (0 : Int32) = 0))) (fun _ => ?_)
    refine Go.iload W6.cx d_jdk_42_method_75_53 (v := (0 : Int32)) rfl ?_
    refine Go.iconst W6.cx d_jdk_42_method_75_55 (z := (1 : Int32)) rfl ?_
    refine Go.icne W6.cx d_jdk_42_method_75_56 (by decide) (q := 63) rfl (fun _ => ?_) (fun hh => (by first | exact absurd (by decide : ¬ (0 : Int32) = 1) hh | exact absurd hh (by decide : ¬ (0 : Int32) = 1)))
    refine Go.aload_n W6.cx d_jdk_42_method_75_63 (v := (.ref b1)) rfl rfl ?_
    refine Go.iload_n W6.cx d_jdk_42_method_75_64 (v := (Int32.ofNat k)) rfl ?_
    refine Go.aload W6.cx d_jdk_42_method_75_65 (v := (.ref b2)) rfl rfl ?_
    refine Go.iconst W6.cx d_jdk_42_method_75_67 (z := (0 : Int32)) rfl ?_
    refine Go.iload W6.cx d_jdk_42_method_75_68 (v := (Int32.ofNat ds.length)) rfl ?_
    refine Go.invs1 W6 (Ctr.call (wt := 0) (c_mis l Z a0 hw hE W6.old (k := k) B1 B2 hpc hpd hk h7 hl1) W6.ew (wd hw 91 rfl) (wd hw 90 rfl) (by simp) (by decide) (by decide)) d_jdk_42_method_75_70 (wd hw 88 rfl) (wd hw 89 rfl) (wd hw 90 rfl) (wd hw 91 rfl) (by decide) pd_3 rfl rfl (rest := []) rfl (Nat.le_of_eq rfl) (cells' := 0) (slots' := 0) rfl rfl (by decide) (by decide) ?_
    rintro T7 h7 _ W7 z7 ⟨y7, rfl, M7, e7⟩
    subst e7
    refine Go.ifge W7.cx d_jdk_42_method_75_73 (by decide) (q := 80) rfl (fun c2 => ?_) (fun c2 => ?_)
    · refine Go.iconst W7.cx d_jdk_42_method_75_80 (z := (0 : Int32)) rfl ?_
      exact Go.iret W7 d_jdk_42_method_75_81 (by simp) rfl (by decide) (by decide) ⟨_, rfl, _, rfl, Bo.ff (M7.elim (fun u => absurd u.1 c2) (fun u => u.2)), rfl⟩
    · refine Go.iconst W7.cx d_jdk_42_method_75_76 (z := (1 : Int32)) rfl ?_
      refine Go.goto W7.cx d_jdk_42_method_75_77 (by decide) (q := 81) rfl ?_
      exact Go.iret W7 d_jdk_42_method_75_81 (by simp) rfl (by decide) (by decide) ⟨_, rfl, _, rfl, Bo.tt (M7.elim (fun u => u.2) (fun u => absurd c2 u.1)), rfl⟩
  · refine Go.iconst W2.cx d_jdk_42_method_75_17 (z := (0 : Int32)) rfl ?_
    exact Go.iret W2 d_jdk_42_method_75_18 (by simp) rfl (by decide) (by decide) ⟨_, rfl, _, rfl, Bo.ff (fun z => absurd (hle.mp c1) (Nat.not_lt.mpr z.1)), rfl⟩
theorem d_jdk_42_method_76_0 : Dec jdk_42_method_76_code 0 (.aload_n 0) 1 1 := ⟨by decide +kernel, rfl⟩
theorem d_jdk_42_method_76_1 : Dec jdk_42_method_76_code 1 (.aload_n 1) 1 2 := ⟨by decide +kernel, rfl⟩
theorem d_jdk_42_method_76_2 : Dec jdk_42_method_76_code 2 (.iconst 0) 1 3 := ⟨by decide +kernel, rfl⟩
theorem d_jdk_42_method_76_3 : Dec jdk_42_method_76_code 3 (.invokevirtual 624) 3 6 := ⟨by decide +kernel, rfl⟩
theorem pd_4 : parseMethodDescriptor "(Ljava/lang/String;I)Z" = some ⟨[(.object "java/lang/String"), .int], some .boolean⟩ := by decide +kernel
theorem d_jdk_42_method_76_6 : Dec jdk_42_method_76_code 6 (.ireturn) 1 7 := ⟨by decide +kernel, rfl⟩
set_option maxRecDepth 65536 in
set_option maxHeartbeats 40000000 in
theorem c_sw1 (l : Launch) (Z : State) (a0 : Array Value) (hw : ∀ d ∈ tables_1, d.before a0 Z = true) (hE : EW Z a0 EL0) {n0 : Nat} {h0 : Heap} (hO : Old Z n0 h0) (hG : Gl Z) {a b : Addr} {cs ds : List Int32} (S : Str Z h0 a cs) (S2 : Str Z h0 b ds) (h7 : ds.length ≤ 7) :
    Ctr NW EL0 n0 Z [] l (⟨"java/lang/String", "startsWith", "(Ljava/lang/String;)Z"⟩ : MethodName) jdk_42_method_76_code 2 (some .boolean) ({ frames := 3, cells := 0, slots := 0, locals := 46 } : Room) #[.ref a, .ref b] h0 (RV fun w h => ∃ z : Int32, w = .int z ∧ Bo (Sw cs 0 ds) z ∧ h0 = h) := by
  refine Ctr.body (plainFor_of_name pn_0) hE hO (fun x q => nomatch q) (L0 := #[.val (.ref a), .val (.ref b)]) (fun m => by first | (simp [entryFrame, mkF, argsToLocals, Value.category, maxLocals]; done) | rfl) ?_
  intro p e s m below meth c T0 W0
  refine Go.aload_n W0.cx d_jdk_42_method_76_0 (v := (.ref a)) rfl rfl ?_
  refine Go.aload_n W0.cx d_jdk_42_method_76_1 (v := (.ref b)) rfl rfl ?_
  refine Go.iconst W0.cx d_jdk_42_method_76_2 (z := (0 : Int32)) rfl ?_
  refine Go.invv1 W0 (Ctr.call (wt := 0) (c_sw l Z a0 hw hE W0.old hG (k := 0) S S2 (by omega) h7) W0.ew (wd hw 61 rfl) (wd hw 9 rfl) (by simp) (by decide) (by decide)) d_jdk_42_method_76_3 (wd hw 57 rfl) (wd hw 58 rfl) (wd hw 60 rfl) (wd hw 59 rfl) (by decide) S.exa pd_4 rfl rfl (rest := []) rfl (Nat.le_of_eq rfl) (cells' := 0) (slots' := 0) rfl rfl (by decide) (by decide) ?_
  rintro T1 h1 _ W1 z1 ⟨y1, rfl, B1, e1⟩
  subst e1
  exact Go.iret W1 d_jdk_42_method_76_6 (by simp) B1.nar (by decide) (by decide) ⟨_, rfl, _, rfl, B1, rfl⟩
def SBd (Z : State) (h : Heap) (a b : Addr) (kb : ClassId) (cs : List Int32) : Prop := Exa Z h a "java/lang/StringBuilder" ∧ Fld Z h a "java/lang/AbstractStringBuilder" "value" "[B" (.ref b) ∧ Fld Z h a "java/lang/AbstractStringBuilder" "coder" "B" (.int 0) ∧ Fld Z h a "java/lang/AbstractStringBuilder" "count" "I" (.int (Int32.ofNat cs.length)) ∧ (∃ bs : List Int32, BArr Z h b kb bs ∧ bs.length = 16 ∧ bs.take cs.length = cs) ∧ (∀ c ∈ cs, ¬ c < 0 ∧ ¬ (255 : Int32) < c) ∧ cs.length ≤ 8 ∧ a ≠ b
theorem SBd.ext {Z : State} {h h' : Heap} {a b : Addr} {kb : ClassId} {cs : List Int32} (B : SBd Z h a b kb cs) (E : Ext h h') : SBd Z h' a b kb cs := by
  obtain ⟨h1, h2, h3, h4, ⟨bs, h5, h6⟩, r⟩ := B
  exact ⟨h1.ext E, h2.ext E, h3.ext E, h4.ext E, ⟨bs, h5.ext E, h6⟩, r⟩
theorem tkset {bs cs : List Int32} {x : Int32} (h : bs.length = 16) (hc : cs.length < 16) (e : bs.take cs.length = cs) : (bs.set cs.length x).take (cs ++ [x]).length = cs ++ [x] := by
  have h1 : (cs ++ [x]).length = cs.length + 1 := by simp
  rw [h1, List.take_add_one, List.take_set_of_le (Nat.le_refl _), e]
  simp [List.getElem?_set, h, hc]
theorem ne_ge' {x b : Addr} {h : Heap} (l : x < h.size) (g : h.size ≤ b) : b ≠ x := fun e => by subst e; exact absurd l (Nat.not_lt.mpr g)
theorem nin_ne {x b : Addr} (q : x ≠ b) : x ∉ [b] := fun z => q (List.mem_singleton.mp z)
theorem all_app {cs : List Int32} {x : Int32} (h : ∀ c ∈ cs, ¬ c < 0 ∧ ¬ (255 : Int32) < c) (hx : ¬ x < 0 ∧ ¬ (255 : Int32) < x) : ∀ c ∈ cs ++ [x], ¬ c < 0 ∧ ¬ (255 : Int32) < c := fun c q => (List.mem_append.mp q).elim (h c) (fun u => (List.mem_singleton.mp u) ▸ hx)
theorem pn_2 : plainName "java/lang/AbstractStringBuilder" = true := by first | (simp [plainName, overriddenIn]; done) | decide +kernel
theorem d_jdk_68_method_2_0 : Dec jdk_68_method_2_code 0 (.aload_n 0) 1 1 := ⟨by decide +kernel, rfl⟩
theorem d_jdk_68_method_2_1 : Dec jdk_68_method_2_code 1 (.invokespecial 3) 3 4 := ⟨by decide +kernel, rfl⟩
theorem d_jdk_68_method_2_4 : Dec jdk_68_method_2_code 4 (.getstatic 18) 3 7 := ⟨by decide +kernel, rfl⟩
theorem d_jdk_68_method_2_7 : Dec jdk_68_method_2_code 7 (.ifCond .eq 18) 3 10 := ⟨by decide +kernel, rfl⟩
theorem d_jdk_68_method_2_10 : Dec jdk_68_method_2_code 10 (.aload_n 0) 1 11 := ⟨by decide +kernel, rfl⟩
theorem d_jdk_68_method_2_11 : Dec jdk_68_method_2_code 11 (.iload_n 1) 1 12 := ⟨by decide +kernel, rfl⟩
theorem d_jdk_68_method_2_12 : Dec jdk_68_method_2_code 12 (.newarray .byte) 2 14 := ⟨by decide +kernel, rfl⟩
theorem d_jdk_68_method_2_14 : Dec jdk_68_method_2_code 14 (.putfield 15) 3 17 := ⟨by decide +kernel, rfl⟩
theorem d_jdk_68_method_2_17 : Dec jdk_68_method_2_code 17 (.aload_n 0) 1 18 := ⟨by decide +kernel, rfl⟩
theorem d_jdk_68_method_2_18 : Dec jdk_68_method_2_code 18 (.iconst 0) 1 19 := ⟨by decide +kernel, rfl⟩
theorem d_jdk_68_method_2_19 : Dec jdk_68_method_2_code 19 (.putfield 22) 3 22 := ⟨by decide +kernel, rfl⟩
theorem d_jdk_68_method_2_22 : Dec jdk_68_method_2_code 22 (.goto 16) 3 25 := ⟨by decide +kernel, rfl⟩
theorem d_jdk_68_method_2_38 : Dec jdk_68_method_2_code 38 (.return_) 1 39 := ⟨by decide +kernel, rfl⟩
set_option maxRecDepth 65536 in
set_option maxHeartbeats 40000000 in
theorem c_asbi (l : Launch) (Z : State) (a0 : Array Value) (hw : ∀ d ∈ tables_1, d.before a0 Z = true) (hE : EW Z a0 EL0) {n0 : Nat} {h0 : Heap} (hO : Old Z n0 h0) (hG : Gl Z) {a : Addr} (ha : n0 ≤ a) (E_a : Exa Z h0 a "java/lang/StringBuilder") (Fv : Fld Z h0 a "java/lang/AbstractStringBuilder" "value" "[B" .null) (Fc : Fld Z h0 a "java/lang/AbstractStringBuilder" "coder" "B" (.int 0)) (Fn : Fld Z h0 a "java/lang/AbstractStringBuilder" "count" "I" (.int 0)) :
    Ctr NW EL0 n0 Z [a] l (⟨"java/lang/AbstractStringBuilder", "<init>", "(I)V"⟩ : MethodName) jdk_68_method_2_code 2 none ({ frames := 1, cells := 1, slots := 16, locals := 12 } : Room) #[.ref a, .int 16] h0 (RN fun h => ∃ b kb, Keep h0 h [a] ∧ h0.size ≤ b ∧ SBd Z h a b kb []) := by
  refine Ctr.body (plainFor_of_name pn_2) hE hO (fun z q => by cases List.mem_singleton.mp q; exact ⟨ha, E_a.lt⟩) (L0 := #[.val (.ref a), .val (.int (16 : Int32))]) (fun m => by first | (simp [entryFrame, mkF, argsToLocals, Value.category, maxLocals]; done) | rfl) ?_
  intro p e s m below meth c T0 W0
  obtain ⟨⟨zc, O2, P5⟩, -⟩ := id hG
  refine Go.aload_n W0.cx d_jdk_68_method_2_0 (v := (.ref a)) rfl rfl ?_
  refine Go.initObj W0 d_jdk_68_method_2_1 (wd hw 104 rfl) (wd hw 19 rfl) (wd hw 20 rfl) rfl (by decide) (wt := 0) rfl (by decide) ?_
  intro T1 W1
  refine Go.gets W1 d_jdk_68_method_2_4 (wd hw 105 rfl) Via.refl O2 ?_
  intro T2 W2
  refine Go.ifeq W2.cx d_jdk_68_method_2_7 (by decide) (q := 25) rfl (fun hh => (by first | exact absurd P5 hh | exact absurd hh P5)) (fun _ => ?_)
  refine Go.aload_n W2.cx d_jdk_68_method_2_10 (v := (.ref a)) rfl rfl ?_
  refine Go.iload_n W2.cx d_jdk_68_method_2_11 (v := (16 : Int32)) rfl ?_
  refine Go.newarr W2 d_jdk_68_method_2_12 (wd hw 22 rfl) (z := (16 : Int32)) (cap := 16) (by decide) (by decide) (by decide) (cells' := 1) (slots' := 16) rfl rfl (by decide) (by decide) ?_
  intro T3 h3 a3 ka3 g3 W3 E3 A3
  have V3 : BArr Z h3 a3 ka3 (List.replicate 16 0) := BArr.of_new A3 (k := 16) rfl rfl
  have E_3 := E_a.ext E3
  have hne := ne_new E_a.lt g3
  refine Go.putf W3 d_jdk_68_method_2_14 (wd hw 106 rfl) Via.refl (Fv.ext E3) E_3 (Or.inl (wd hw 107 rfl)) (wd hw 93 rfl) (t := (.array .byte)) (by decide) (v' := (.ref a3)) rfl rfl (by simp) ?_
  intro T4 h4 W4 R4
  have Fv4 := (Fv.ext E3).same R4
  have Fc4 := (Fc.ext E3).other R4 (Or.inr (slot_ne (Or.inl (wd hw 109 rfl)) (Or.inl (wd hw 107 rfl)) (by decide) (t := .byte) (t' := (.array .byte)) (by decide) (by decide)))
  have Fn4 := (Fn.ext E3).other R4 (Or.inr (slot_ne (Or.inl (wd hw 144 rfl)) (Or.inl (wd hw 107 rfl)) (by decide) (t := .int) (t' := (.array .byte)) (by decide) (by decide)))
  have E_4 := E_3.wr R4
  have B4 := Arv.other V3 R4 (Ne.symm hne)
  refine Go.aload_n W4.cx d_jdk_68_method_2_17 (v := (.ref a)) rfl rfl ?_
  refine Go.iconst W4.cx d_jdk_68_method_2_18 (z := (0 : Int32)) rfl ?_
  refine Go.putf W4 d_jdk_68_method_2_19 (wd hw 108 rfl) Via.refl Fc4 E_4 (Or.inl (wd hw 109 rfl)) (wd hw 93 rfl) (t := .byte) (by decide) (v' := (.int 0)) rfl rfl (by simp) ?_
  intro T5 h5 W5 R5
  have Fc5 := Fc4.same R5
  have Fv5 := Fv4.other R5 (Or.inr (slot_ne (Or.inl (wd hw 107 rfl)) (Or.inl (wd hw 109 rfl)) (by decide) (t := (.array .byte)) (t' := .byte) (by decide) (by decide)))
  have Fn5 := Fn4.other R5 (Or.inr (slot_ne (Or.inl (wd hw 144 rfl)) (Or.inl (wd hw 109 rfl)) (by decide) (t := .int) (t' := .byte) (by decide) (by decide)))
  have E_5 := E_4.wr R5
  have B5 := Arv.other B4 R5 (Ne.symm hne)
  refine Go.goto W5.cx d_jdk_68_method_2_22 (by decide) (q := 38) rfl ?_
  exact Go.vret W5 d_jdk_68_method_2_38 (by decide) (by decide) ⟨rfl, a3, ka3, (((Keep.refl h0 [a]).ext E3).wr R4 (Or.inl (by simp))).wr R5 (Or.inl (by simp)), Nat.le_of_eq g3.symm, E_5, Fv5, Fc5, Fn5, ⟨_, B5, rfl, rfl⟩, all_nil, by decide, hne⟩
theorem pn_3 : plainName "java/lang/StringBuilder" = true := by first | (simp [plainName, overriddenIn]; done) | decide +kernel
theorem d_jdk_67_method_1_0 : Dec jdk_67_method_1_code 0 (.aload_n 0) 1 1 := ⟨by decide +kernel, rfl⟩
theorem d_jdk_67_method_1_1 : Dec jdk_67_method_1_code 1 (.bipush 16) 2 3 := ⟨by decide +kernel, rfl⟩
theorem d_jdk_67_method_1_3 : Dec jdk_67_method_1_code 3 (.invokespecial 1) 3 6 := ⟨by decide +kernel, rfl⟩
theorem pd_5 : parseMethodDescriptor "(I)V" = some ⟨[.int], none⟩ := by decide +kernel
theorem d_jdk_67_method_1_6 : Dec jdk_67_method_1_code 6 (.return_) 1 7 := ⟨by decide +kernel, rfl⟩
set_option maxRecDepth 65536 in
set_option maxHeartbeats 40000000 in
theorem c_sbi (l : Launch) (Z : State) (a0 : Array Value) (hw : ∀ d ∈ tables_1, d.before a0 Z = true) (hE : EW Z a0 EL0) {n0 : Nat} {h0 : Heap} (hO : Old Z n0 h0) (hG : Gl Z) {a : Addr} (ha : n0 ≤ a) (E_a : Exa Z h0 a "java/lang/StringBuilder") (Fv : Fld Z h0 a "java/lang/AbstractStringBuilder" "value" "[B" .null) (Fc : Fld Z h0 a "java/lang/AbstractStringBuilder" "coder" "B" (.int 0)) (Fn : Fld Z h0 a "java/lang/AbstractStringBuilder" "count" "I" (.int 0)) :
    Ctr NW EL0 n0 Z [a] l (⟨"java/lang/StringBuilder", "<init>", "()V"⟩ : MethodName) jdk_67_method_1_code 1 none ({ frames := 2, cells := 1, slots := 16, locals := 25 } : Room) #[.ref a] h0 (RN fun h => ∃ b kb, Keep h0 h [a] ∧ h0.size ≤ b ∧ SBd Z h a b kb []) := by
  refine Ctr.body (plainFor_of_name pn_3) hE hO (fun z q => by cases List.mem_singleton.mp q; exact ⟨ha, E_a.lt⟩) (L0 := #[.val (.ref a)]) (fun m => by first | (simp [entryFrame, mkF, argsToLocals, Value.category, maxLocals]; done) | rfl) ?_
  intro p e s m below meth c T0 W0
  refine Go.aload_n W0.cx d_jdk_67_method_1_0 (v := (.ref a)) rfl rfl ?_
  refine Go.bipush W0.cx d_jdk_67_method_1_1 (z := (16 : Int32)) rfl ?_
  refine Go.invi W0 (Ctr.call (wt := 0) (c_asbi l Z a0 hw hE W0.old hG ha E_a Fv Fc Fn) W0.ew (wd hw 103 rfl) (wd hw 102 rfl) (by simp) (by decide) (by decide)) d_jdk_67_method_1_3 rfl (wd hw 98 rfl) (wd hw 99 rfl) (wd hw 103 rfl) (by decide) pd_5 rfl rfl (rest := []) rfl (Nat.le_of_eq rfl) (cells' := 1) (slots' := 16) rfl rfl (by decide) (by decide) ?_
  rintro T1 h1 W1 z1 ⟨b1, kb1, K1, l1, B1⟩
  exact Go.vret W1 d_jdk_67_method_1_6 (by decide) (by decide) ⟨rfl, b1, kb1, K1, l1, B1⟩
theorem pn_4 : plainName "java/lang/StringLatin1" = true := by first | (simp [plainName, overriddenIn]; done) | decide +kernel
theorem d_jdk_43_method_3_0 : Dec jdk_43_method_3_code 0 (.iload_n 0) 1 1 := ⟨by decide +kernel, rfl⟩
theorem d_jdk_43_method_3_1 : Dec jdk_43_method_3_code 1 (.sipush 255) 3 4 := ⟨by decide +kernel, rfl⟩
theorem d_jdk_43_method_3_4 : Dec jdk_43_method_3_code 4 (.if_icmp .gt 7) 3 7 := ⟨by decide +kernel, rfl⟩
theorem d_jdk_43_method_3_7 : Dec jdk_43_method_3_code 7 (.iconst 1) 1 8 := ⟨by decide +kernel, rfl⟩
theorem d_jdk_43_method_3_8 : Dec jdk_43_method_3_code 8 (.goto 4) 3 11 := ⟨by decide +kernel, rfl⟩
theorem d_jdk_43_method_3_12 : Dec jdk_43_method_3_code 12 (.ireturn) 1 13 := ⟨by decide +kernel, rfl⟩
set_option maxRecDepth 65536 in
set_option maxHeartbeats 40000000 in
theorem c_canC (l : Launch) (Z : State) (a0 : Array Value) (hw : ∀ d ∈ tables_1, d.before a0 Z = true) (hE : EW Z a0 EL0) {n0 : Nat} {h0 : Heap} (hO : Old Z n0 h0) {x : Int32} (hx : ¬ x < 0 ∧ ¬ (255 : Int32) < x) :
    Ctr NW EL0 n0 Z [] l (⟨"java/lang/StringLatin1", "canEncode", "(C)Z"⟩ : MethodName) jdk_43_method_3_code 1 (some .boolean) ({ frames := 0, cells := 0, slots := 0, locals := 0 } : Room) #[.int x] h0 (RV fun w h => w = .int 1 ∧ h0 = h) := by
  refine Ctr.body (plainFor_of_name pn_4) hE hO (fun x q => nomatch q) (L0 := #[.val (.int x)]) (fun m => by first | (simp [entryFrame, mkF, argsToLocals, Value.category, maxLocals]; done) | rfl) ?_
  intro p e s m below meth c T0 W0
  refine Go.iload_n W0.cx d_jdk_43_method_3_0 (v := x) rfl ?_
  refine Go.sipush W0.cx d_jdk_43_method_3_1 (z := (255 : Int32)) rfl ?_
  refine Go.icgt W0.cx d_jdk_43_method_3_4 (by decide) (q := 11) rfl (fun hh => (by first | exact absurd hx.2 hh | exact absurd hh hx.2)) (fun _ => ?_)
  refine Go.iconst W0.cx d_jdk_43_method_3_7 (z := (1 : Int32)) rfl ?_
  refine Go.goto W0.cx d_jdk_43_method_3_8 (by decide) (q := 12) rfl ?_
  exact Go.iret W0 d_jdk_43_method_3_12 (by simp) rfl (by decide) (by decide) ⟨_, rfl, rfl, rfl⟩
theorem d_jdk_68_method_9_0 : Dec jdk_68_method_9_code 0 (.aload_n 0) 1 1 := ⟨by decide +kernel, rfl⟩
theorem d_jdk_68_method_9_1 : Dec jdk_68_method_9_code 1 (.getfield 15) 3 4 := ⟨by decide +kernel, rfl⟩
theorem d_jdk_68_method_9_4 : Dec jdk_68_method_9_code 4 (.arraylength) 1 5 := ⟨by decide +kernel, rfl⟩
theorem d_jdk_68_method_9_5 : Dec jdk_68_method_9_code 5 (.aload_n 0) 1 6 := ⟨by decide +kernel, rfl⟩
theorem d_jdk_68_method_9_6 : Dec jdk_68_method_9_code 6 (.getfield 22) 3 9 := ⟨by decide +kernel, rfl⟩
theorem d_jdk_68_method_9_9 : Dec jdk_68_method_9_code 9 (.ishr) 1 10 := ⟨by decide +kernel, rfl⟩
theorem d_jdk_68_method_9_10 : Dec jdk_68_method_9_code 10 (.istore_n 2) 1 11 := ⟨by decide +kernel, rfl⟩
theorem d_jdk_68_method_9_11 : Dec jdk_68_method_9_code 11 (.iload_n 1) 1 12 := ⟨by decide +kernel, rfl⟩
theorem d_jdk_68_method_9_12 : Dec jdk_68_method_9_code 12 (.iload_n 2) 1 13 := ⟨by decide +kernel, rfl⟩
theorem d_jdk_68_method_9_13 : Dec jdk_68_method_9_code 13 (.isub) 1 14 := ⟨by decide +kernel, rfl⟩
theorem d_jdk_68_method_9_14 : Dec jdk_68_method_9_code 14 (.ifCond .le 24) 3 17 := ⟨by decide +kernel, rfl⟩
theorem d_jdk_68_method_9_38 : Dec jdk_68_method_9_code 38 (.return_) 1 39 := ⟨by decide +kernel, rfl⟩
set_option maxRecDepth 65536 in
set_option maxHeartbeats 40000000 in
theorem c_ecap (l : Launch) (Z : State) (a0 : Array Value) (hw : ∀ d ∈ tables_1, d.before a0 Z = true) (hE : EW Z a0 EL0) {n0 : Nat} {h0 : Heap} (hO : Old Z n0 h0) {a b : Addr} {kb : ClassId} {cs : List Int32} (B : SBd Z h0 a b kb cs) {k : Nat} (hk : k ≤ 16) :
    Ctr NW EL0 n0 Z [] l (⟨"java/lang/AbstractStringBuilder", "ensureCapacityInternal", "(I)V"⟩ : MethodName) jdk_68_method_9_code 3 none ({ frames := 0, cells := 0, slots := 0, locals := 0 } : Room) #[.ref a, .int (Int32.ofNat k)] h0 (RN fun h => h0 = h) := by
  refine Ctr.body (plainFor_of_name pn_2) hE hO (fun x q => nomatch q) (L0 := #[.val (.ref a), .val (.int (Int32.ofNat k)), .unset]) (fun m => by first | (simp [entryFrame, mkF, argsToLocals, Value.category, maxLocals]; done) | rfl) ?_
  intro p e s m below meth c T0 W0
  obtain ⟨EX, Fv, Fc, Fn, ⟨bs, BA, hbs, htk⟩, hch, h8, hab⟩ := id B
  refine Go.aload_n W0.cx d_jdk_68_method_9_0 (v := (.ref a)) rfl rfl ?_
  refine Go.getf W0 d_jdk_68_method_9_1 (wd hw 106 rfl) Via.refl Fv ?_
  intro T1 W1
  refine Go.alen W1 d_jdk_68_method_9_4 BA ?_
  refine Go.top (show Int32.ofNat bs.length = (16 : Int32) by rw [hbs]; rfl) ?_
  refine Go.aload_n W1.cx d_jdk_68_method_9_5 (v := (.ref a)) rfl rfl ?_
  refine Go.getf W1 d_jdk_68_method_9_6 (wd hw 108 rfl) Via.refl Fc ?_
  intro T2 W2
  refine Go.ishr W2.cx d_jdk_68_method_9_9 ?_
  refine Go.top (show _ = (16 : Int32) from by decide) ?_
  refine Go.istore_n W2.cx d_jdk_68_method_9_10 (L' := #[.val (.ref a), .val (.int (Int32.ofNat k)), .val (.int (16 : Int32))]) rfl ?_
  refine Go.iload_n W2.cx d_jdk_68_method_9_11 (v := (Int32.ofNat k)) rfl ?_
  refine Go.iload_n W2.cx d_jdk_68_method_9_12 (v := (16 : Int32)) rfl ?_
  refine Go.isub W2.cx d_jdk_68_method_9_13 ?_
  refine Go.ifle W2.cx d_jdk_68_method_9_14 (by decide) (q := 38) rfl (fun _ => ?_) (fun hh => (by first | exact absurd (show ¬ (0 : Int32) < Int32.ofNat k - Int32.ofNat 16 by rw [Int32.lt_iff_toInt_lt, sub_int (by omega) (by omega)]; show ¬ ((0 : Int) < _); omega) hh | exact absurd hh (show ¬ (0 : Int32) < Int32.ofNat k - Int32.ofNat 16 by rw [Int32.lt_iff_toInt_lt, sub_int (by omega) (by omega)]; show ¬ ((0 : Int) < _); omega)))
  exact Go.vret W2 d_jdk_68_method_9_38 (by decide) (by decide) ⟨rfl, rfl⟩
theorem d_jdk_68_method_68_0 : Dec jdk_68_method_68_code 0 (.getstatic 18) 3 3 := ⟨by decide +kernel, rfl⟩
theorem d_jdk_68_method_68_3 : Dec jdk_68_method_68_code 3 (.ifCond .eq 14) 3 6 := ⟨by decide +kernel, rfl⟩
theorem d_jdk_68_method_68_6 : Dec jdk_68_method_68_code 6 (.aload_n 0) 1 7 := ⟨by decide +kernel, rfl⟩
theorem d_jdk_68_method_68_7 : Dec jdk_68_method_68_code 7 (.getfield 22) 3 10 := ⟨by decide +kernel, rfl⟩
theorem d_jdk_68_method_68_10 : Dec jdk_68_method_68_code 10 (.ifCond .ne 7) 3 13 := ⟨by decide +kernel, rfl⟩
theorem d_jdk_68_method_68_13 : Dec jdk_68_method_68_code 13 (.iconst 1) 1 14 := ⟨by decide +kernel, rfl⟩
theorem d_jdk_68_method_68_14 : Dec jdk_68_method_68_code 14 (.goto 4) 3 17 := ⟨by decide +kernel, rfl⟩
theorem d_jdk_68_method_68_18 : Dec jdk_68_method_68_code 18 (.ireturn) 1 19 := ⟨by decide +kernel, rfl⟩
set_option maxRecDepth 65536 in
set_option maxHeartbeats 40000000 in
theorem c_asbL1 (l : Launch) (Z : State) (a0 : Array Value) (hw : ∀ d ∈ tables_1, d.before a0 Z = true) (hE : EW Z a0 EL0) {n0 : Nat} {h0 : Heap} (hO : Old Z n0 h0) (hG : Gl Z) {a b : Addr} {kb : ClassId} {cs : List Int32} (B : SBd Z h0 a b kb cs) :
    Ctr NW EL0 n0 Z [] l (⟨"java/lang/AbstractStringBuilder", "isLatin1", "()Z"⟩ : MethodName) jdk_68_method_68_code 1 (some .boolean) ({ frames := 0, cells := 0, slots := 0, locals := 0 } : Room) #[.ref a] h0 (RV fun w h => w = .int 1 ∧ h0 = h) := by
  refine Ctr.body (plainFor_of_name pn_2) hE hO (fun x q => nomatch q) (L0 := #[.val (.ref a)]) (fun m => by first | (simp [entryFrame, mkF, argsToLocals, Value.category, maxLocals]; done) | rfl) ?_
  intro p e s m below meth c T0 W0
  obtain ⟨⟨zc, O2, P5⟩, -⟩ := id hG
  obtain ⟨EX, Fv, Fc, Fn, ⟨bs, BA, hbs, htk⟩, hch, h8, hab⟩ := id B
  refine Go.gets W0 d_jdk_68_method_68_0 (wd hw 105 rfl) Via.refl O2 ?_
  intro T1 W1
  refine Go.ifeq W1.cx d_jdk_68_method_68_3 (by decide) (q := 17) rfl (fun hh => (by first | exact absurd P5 hh | exact absurd hh P5)) (fun _ => ?_)
  refine Go.aload_n W1.cx d_jdk_68_method_68_6 (v := (.ref a)) rfl rfl ?_
  refine Go.getf W1 d_jdk_68_method_68_7 (wd hw 108 rfl) Via.refl Fc ?_
  intro T2 W2
  refine Go.ifne W2.cx d_jdk_68_method_68_10 (by decide) (q := 17) rfl (fun hh => (by first | exact absurd (rfl : (0 : Int32) = 0) hh | exact absurd hh (rfl : (0 : Int32) = 0))) (fun _ => ?_)
  refine Go.iconst W2.cx d_jdk_68_method_68_13 (z := (1 : Int32)) rfl ?_
  refine Go.goto W2.cx d_jdk_68_method_68_14 (by decide) (q := 18) rfl ?_
  exact Go.iret W2 d_jdk_68_method_68_18 (by simp) rfl (by decide) (by decide) ⟨_, rfl, rfl, rfl⟩
theorem d_jdk_68_method_31_0 : Dec jdk_68_method_31_code 0 (.aload_n 0) 1 1 := ⟨by decide +kernel, rfl⟩
theorem d_jdk_68_method_31_1 : Dec jdk_68_method_31_code 1 (.aload_n 0) 1 2 := ⟨by decide +kernel, rfl⟩
theorem d_jdk_68_method_31_2 : Dec jdk_68_method_31_code 2 (.getfield 79) 3 5 := ⟨by decide +kernel, rfl⟩
theorem d_jdk_68_method_31_5 : Dec jdk_68_method_31_code 5 (.iconst 1) 1 6 := ⟨by decide +kernel, rfl⟩
theorem d_jdk_68_method_31_6 : Dec jdk_68_method_31_code 6 (.iadd) 1 7 := ⟨by decide +kernel, rfl⟩
theorem d_jdk_68_method_31_7 : Dec jdk_68_method_31_code 7 (.invokevirtual 100) 3 10 := ⟨by decide +kernel, rfl⟩
theorem d_jdk_68_method_31_10 : Dec jdk_68_method_31_code 10 (.aload_n 0) 1 11 := ⟨by decide +kernel, rfl⟩
theorem d_jdk_68_method_31_11 : Dec jdk_68_method_31_code 11 (.invokevirtual 83) 3 14 := ⟨by decide +kernel, rfl⟩
theorem pd_6 : parseMethodDescriptor "()Z" = some ⟨[], some .boolean⟩ := by decide +kernel
theorem d_jdk_68_method_31_14 : Dec jdk_68_method_31_code 14 (.ifCond .eq 31) 3 17 := ⟨by decide +kernel, rfl⟩
theorem d_jdk_68_method_31_17 : Dec jdk_68_method_31_code 17 (.iload_n 1) 1 18 := ⟨by decide +kernel, rfl⟩
theorem d_jdk_68_method_31_18 : Dec jdk_68_method_31_code 18 (.invokestatic 191) 3 21 := ⟨by decide +kernel, rfl⟩
theorem pd_7 : parseMethodDescriptor "(C)Z" = some ⟨[.char], some .boolean⟩ := by decide +kernel
theorem d_jdk_68_method_31_21 : Dec jdk_68_method_31_code 21 (.ifCond .eq 24) 3 24 := ⟨by decide +kernel, rfl⟩
theorem d_jdk_68_method_31_24 : Dec jdk_68_method_31_code 24 (.aload_n 0) 1 25 := ⟨by decide +kernel, rfl⟩
theorem d_jdk_68_method_31_25 : Dec jdk_68_method_31_code 25 (.getfield 15) 3 28 := ⟨by decide +kernel, rfl⟩
theorem d_jdk_68_method_31_28 : Dec jdk_68_method_31_code 28 (.aload_n 0) 1 29 := ⟨by decide +kernel, rfl⟩
theorem d_jdk_68_method_31_29 : Dec jdk_68_method_31_code 29 (.dup) 1 30 := ⟨by decide +kernel, rfl⟩
theorem d_jdk_68_method_31_30 : Dec jdk_68_method_31_code 30 (.getfield 79) 3 33 := ⟨by decide +kernel, rfl⟩
theorem d_jdk_68_method_31_33 : Dec jdk_68_method_31_code 33 (.dup_x1) 1 34 := ⟨by decide +kernel, rfl⟩
theorem d_jdk_68_method_31_34 : Dec jdk_68_method_31_code 34 (.iconst 1) 1 35 := ⟨by decide +kernel, rfl⟩
theorem d_jdk_68_method_31_35 : Dec jdk_68_method_31_code 35 (.iadd) 1 36 := ⟨by decide +kernel, rfl⟩
theorem d_jdk_68_method_31_36 : Dec jdk_68_method_31_code 36 (.putfield 79) 3 39 := ⟨by decide +kernel, rfl⟩
theorem d_jdk_68_method_31_39 : Dec jdk_68_method_31_code 39 (.iload_n 1) 1 40 := ⟨by decide +kernel, rfl⟩
theorem d_jdk_68_method_31_40 : Dec jdk_68_method_31_code 40 (.i2b) 1 41 := ⟨by decide +kernel, rfl⟩
theorem d_jdk_68_method_31_41 : Dec jdk_68_method_31_code 41 (.bastore) 1 42 := ⟨by decide +kernel, rfl⟩
theorem d_jdk_68_method_31_42 : Dec jdk_68_method_31_code 42 (.goto 33) 3 45 := ⟨by decide +kernel, rfl⟩
theorem d_jdk_68_method_31_75 : Dec jdk_68_method_31_code 75 (.aload_n 0) 1 76 := ⟨by decide +kernel, rfl⟩
theorem d_jdk_68_method_31_76 : Dec jdk_68_method_31_code 76 (.areturn) 1 77 := ⟨by decide +kernel, rfl⟩
set_option maxRecDepth 65536 in
set_option maxHeartbeats 40000000 in
theorem c_asbapp (l : Launch) (Z : State) (a0 : Array Value) (hw : ∀ d ∈ tables_1, d.before a0 Z = true) (hE : EW Z a0 EL0) {n0 : Nat} {h0 : Heap} (hO : Old Z n0 h0) (hG : Gl Z) {a b : Addr} {kb : ClassId} {cs : List Int32} (B : SBd Z h0 a b kb cs) (ha : n0 ≤ a) (hb : n0 ≤ b) (h7 : cs.length < 8) {x : Int32} (hx : ¬ x < 0 ∧ ¬ (255 : Int32) < x) :
    Ctr NW EL0 n0 Z [a, b] l (⟨"java/lang/AbstractStringBuilder", "append", "(C)Ljava/lang/AbstractStringBuilder;"⟩ : MethodName) jdk_68_method_31_code 2 (some (.object "java/lang/AbstractStringBuilder")) ({ frames := 1, cells := 0, slots := 0, locals := 18 } : Room) #[.ref a, .int x] h0 (RV fun w h => w = .ref a ∧ Keep h0 h [a, b] ∧ SBd Z h a b kb (cs ++ [x])) := by
  refine Ctr.body (plainFor_of_name pn_2) hE hO (fun z q => by have BB := B.2.2.2.2.1; obtain ⟨bs0, BA0, -⟩ := BB; rcases List.mem_cons.mp q with rfl | q; exact ⟨ha, B.1.lt⟩; cases List.mem_singleton.mp q; exact ⟨hb, BA0.lt⟩) (L0 := #[.val (.ref a), .val (.int x)]) (fun m => by first | (simp [entryFrame, mkF, argsToLocals, Value.category, maxLocals]; done) | rfl) ?_
  intro p e s m below meth c T0 W0
  obtain ⟨EX, Fv, Fc, Fn, ⟨bs, BA, hbs, htk⟩, hch, h8, hab⟩ := id B
  refine Go.aload_n W0.cx d_jdk_68_method_31_0 (v := (.ref a)) rfl rfl ?_
  refine Go.aload_n W0.cx d_jdk_68_method_31_1 (v := (.ref a)) rfl rfl ?_
  refine Go.getf W0 d_jdk_68_method_31_2 (wd hw 143 rfl) Via.refl Fn ?_
  intro T1 W1
  refine Go.iconst W1.cx d_jdk_68_method_31_5 (z := (1 : Int32)) rfl ?_
  refine Go.iadd W1.cx d_jdk_68_method_31_6 ?_
  refine Go.top (add1_nat _) ?_
  refine Go.invv0 W1 (Ctr.call (wt := 0) (c_ecap l Z a0 hw hE W1.old B (k := cs.length + 1) (by omega)) W1.ew (wd hw 149 rfl) (wd hw 102 rfl) (by simp) (by decide) (by decide)) d_jdk_68_method_31_7 (wd hw 145 rfl) (decl_of (wd hw 146 rfl) (wd hw 149 rfl)) (wd hw 148 rfl) (wd hw 146 rfl) (by decide) EX pd_5 rfl rfl (rest := []) rfl (Nat.le_of_eq rfl) (cells' := 0) (slots' := 0) rfl rfl (by decide) (by decide) ?_
  rintro T2 h2 W2 z2 e2
  subst e2
  refine Go.aload_n W2.cx d_jdk_68_method_31_10 (v := (.ref a)) rfl rfl ?_
  refine Go.invv1 W2 (Ctr.call (wt := 0) (c_asbL1 l Z a0 hw hE W2.old hG B) W2.ew (wd hw 154 rfl) (wd hw 102 rfl) (by simp) (by decide) (by decide)) d_jdk_68_method_31_11 (wd hw 150 rfl) (wd hw 151 rfl) (wd hw 153 rfl) (wd hw 152 rfl) (by decide) EX pd_6 rfl rfl (rest := []) rfl (Nat.le_of_eq rfl) (cells' := 0) (slots' := 0) rfl rfl (by decide) (by decide) ?_
  rintro T3 h3 _ W3 z3 ⟨rfl, e3⟩
  subst e3
  refine Go.ifeq W3.cx d_jdk_68_method_31_14 (by decide) (q := 45) rfl (fun hh => (by first | exact absurd (by decide : ¬ (1 : Int32) = 0) hh | exact absurd hh (by decide : ¬ (1 : Int32) = 0))) (fun _ => ?_)
  refine Go.iload_n W3.cx d_jdk_68_method_31_17 (v := x) rfl ?_
  refine Go.invs1 W3 (Ctr.call (wt := 0) (c_canC l Z a0 hw hE W3.old hx) W3.ew (wd hw 157 rfl) (wd hw 123 rfl) (by simp) (by decide) (by decide)) d_jdk_68_method_31_18 (wd hw 155 rfl) (wd hw 156 rfl) (wd hw 123 rfl) (wd hw 157 rfl) (by decide) pd_7 rfl rfl (rest := []) rfl (Nat.le_of_eq rfl) (cells' := 0) (slots' := 0) rfl rfl (by decide) (by decide) ?_
  rintro T4 h4 _ W4 z4 ⟨rfl, e4⟩
  subst e4
  refine Go.ifeq W4.cx d_jdk_68_method_31_21 (by decide) (q := 45) rfl (fun hh => (by first | exact absurd (by decide : ¬ (1 : Int32) = 0) hh | exact absurd hh (by decide : ¬ (1 : Int32) = 0))) (fun _ => ?_)
  refine Go.aload_n W4.cx d_jdk_68_method_31_24 (v := (.ref a)) rfl rfl ?_
  refine Go.getf W4 d_jdk_68_method_31_25 (wd hw 106 rfl) Via.refl Fv ?_
  intro T5 W5
  refine Go.aload_n W5.cx d_jdk_68_method_31_28 (v := (.ref a)) rfl rfl ?_
  refine Go.dup W5.cx d_jdk_68_method_31_29 rfl ?_
  refine Go.getf W5 d_jdk_68_method_31_30 (wd hw 143 rfl) Via.refl Fn ?_
  intro T6 W6
  refine Go.dup_x1 W6.cx d_jdk_68_method_31_33 rfl rfl ?_
  refine Go.iconst W6.cx d_jdk_68_method_31_34 (z := (1 : Int32)) rfl ?_
  refine Go.iadd W6.cx d_jdk_68_method_31_35 ?_
  refine Go.top (add1_nat _) ?_
  refine Go.putf W6 d_jdk_68_method_31_36 (wd hw 143 rfl) Via.refl Fn EX (Or.inl (wd hw 144 rfl)) (wd hw 93 rfl) (t := .int) (by decide) (v' := (.int (Int32.ofNat (cs.length + 1)))) rfl rfl (by simp) ?_
  intro T7 h7 W7 R7
  have Fn7 := Fn.same R7
  have Fv7 := Fv.other R7 (Or.inr (slot_ne (Or.inl (wd hw 107 rfl)) (Or.inl (wd hw 144 rfl)) (by decide) (t := (.array .byte)) (t' := .int) (by decide) (by decide)))
  have Fc7 := Fc.other R7 (Or.inr (slot_ne (Or.inl (wd hw 109 rfl)) (Or.inl (wd hw 144 rfl)) (by decide) (t := .byte) (t' := .int) (by decide) (by decide)))
  have EX7 := EX.wr R7
  have BA7 : BArr Z h7 b kb bs := Arv.other BA R7 (Ne.symm hab)
  refine Go.iload_n W7.cx d_jdk_68_method_31_39 (v := x) rfl ?_
  refine Go.i2b W7.cx d_jdk_68_method_31_40 ?_
  refine Go.bastore W7 cs.length d_jdk_68_method_31_41 BA7 (by simp) rfl (by omega) (by omega) (x' := x) (by8_nar _) ?_
  intro T8 h8 W8 K8 V8
  refine Go.goto W8.cx d_jdk_68_method_31_42 (by decide) (q := 75) rfl ?_
  refine Go.aload_n W8.cx d_jdk_68_method_31_75 (v := (.ref a)) rfl rfl ?_
  exact Go.aret W8 d_jdk_68_method_31_76 rfl rfl rfl (by decide) (by decide) ⟨_, rfl, rfl, ((Keep.refl h0 [a, b]).wr R7 (Or.inl (by simp))).trans K8 (fun z q => Or.inl (by cases List.mem_singleton.mp q; simp)), EX7.keep K8, Fv7.keep K8 (nin_ne hab), Fc7.keep K8 (nin_ne hab), by rw [show (cs ++ [x]).length = cs.length + 1 by simp]; exact Fn7.keep K8 (nin_ne hab), ⟨_, V8, by rw [List.length_set]; exact hbs, tkset hbs (by omega) htk⟩, all_app hch hx, by simp; omega, hab⟩
theorem d_jdk_67_method_14_0 : Dec jdk_67_method_14_code 0 (.aload_n 0) 1 1 := ⟨by decide +kernel, rfl⟩
theorem d_jdk_67_method_14_1 : Dec jdk_67_method_14_code 1 (.iload_n 1) 1 2 := ⟨by decide +kernel, rfl⟩
theorem d_jdk_67_method_14_2 : Dec jdk_67_method_14_code 2 (.invokespecial 50) 3 5 := ⟨by decide +kernel, rfl⟩
theorem pd_8 : parseMethodDescriptor "(C)Ljava/lang/AbstractStringBuilder;" = some ⟨[.char], some (.object "java/lang/AbstractStringBuilder")⟩ := by decide +kernel
theorem d_jdk_67_method_14_5 : Dec jdk_67_method_14_code 5 (.pop) 1 6 := ⟨by decide +kernel, rfl⟩
theorem d_jdk_67_method_14_6 : Dec jdk_67_method_14_code 6 (.aload_n 0) 1 7 := ⟨by decide +kernel, rfl⟩
theorem d_jdk_67_method_14_7 : Dec jdk_67_method_14_code 7 (.areturn) 1 8 := ⟨by decide +kernel, rfl⟩
set_option maxRecDepth 65536 in
set_option maxHeartbeats 40000000 in
theorem c_sbapp (l : Launch) (Z : State) (a0 : Array Value) (hw : ∀ d ∈ tables_1, d.before a0 Z = true) (hE : EW Z a0 EL0) {n0 : Nat} {h0 : Heap} (hO : Old Z n0 h0) (hG : Gl Z) {a b : Addr} {kb : ClassId} {cs : List Int32} (B : SBd Z h0 a b kb cs) (ha : n0 ≤ a) (hb : n0 ≤ b) (h7 : cs.length < 8) {x : Int32} (hx : ¬ x < 0 ∧ ¬ (255 : Int32) < x) :
    Ctr NW EL0 n0 Z [a, b] l (⟨"java/lang/StringBuilder", "append", "(C)Ljava/lang/StringBuilder;"⟩ : MethodName) jdk_67_method_14_code 2 (some (.object "java/lang/StringBuilder")) ({ frames := 2, cells := 0, slots := 0, locals := 31 } : Room) #[.ref a, .int x] h0 (RV fun w h => w = .ref a ∧ Keep h0 h [a, b] ∧ SBd Z h a b kb (cs ++ [x])) := by
  refine Ctr.body (plainFor_of_name pn_3) hE hO (fun z q => by have BB := B.2.2.2.2.1; obtain ⟨bs0, BA0, -⟩ := BB; rcases List.mem_cons.mp q with rfl | q; exact ⟨ha, B.1.lt⟩; cases List.mem_singleton.mp q; exact ⟨hb, BA0.lt⟩) (L0 := #[.val (.ref a), .val (.int x)]) (fun m => by first | (simp [entryFrame, mkF, argsToLocals, Value.category, maxLocals]; done) | rfl) ?_
  intro p e s m below meth c T0 W0
  obtain ⟨EX, Fv, Fc, Fn, ⟨bs, BA, hbs, htk⟩, hch, h8, hab⟩ := id B
  refine Go.aload_n W0.cx d_jdk_67_method_14_0 (v := (.ref a)) rfl rfl ?_
  refine Go.iload_n W0.cx d_jdk_67_method_14_1 (v := x) rfl ?_
  refine Go.sup1 (y := (⟨"java/lang/AbstractStringBuilder", "append", "(C)Ljava/lang/AbstractStringBuilder;"⟩ : MethodName)) W0 (wd hw 153 rfl) rfl (Ctr.call (wt := 0) (c_asbapp l Z a0 hw hE W0.old hG B ha hb h7 hx) W0.ew (wd hw 142 rfl) (wd hw 102 rfl) (by simp) (by decide) (by decide)) d_jdk_67_method_14_2 (by decide) (wd hw 138 rfl) (wd hw 139 rfl) (wd hw 140 rfl) (wd hw 142 rfl) (by decide) (Ins.self EX) pd_8 rfl rfl (rest := []) rfl (Nat.le_of_eq rfl) (cells' := 0) (slots' := 0) rfl rfl (by decide) (by decide) ?_
  rintro T1 h1 _ W1 z1 ⟨rfl, K1, B1⟩
  refine Go.pop W1.cx d_jdk_67_method_14_5 rfl ?_
  refine Go.aload_n W1.cx d_jdk_67_method_14_6 (v := (.ref a)) rfl rfl ?_
  exact Go.aret W1 d_jdk_67_method_14_7 rfl rfl rfl (by decide) (by decide) ⟨_, rfl, rfl, K1, B1⟩
theorem pn_5 : plainName "java/util/Arrays" = true := by first | (simp [plainName, overriddenIn]; done) | decide +kernel
theorem d_jdk_65_method_131_0 : Dec jdk_65_method_131_code 0 (.iload_n 1) 1 1 := ⟨by decide +kernel, rfl⟩
theorem d_jdk_65_method_131_1 : Dec jdk_65_method_131_code 1 (.iload_n 0) 1 2 := ⟨by decide +kernel, rfl⟩
theorem d_jdk_65_method_131_2 : Dec jdk_65_method_131_code 2 (.if_icmp .ge 35) 3 5 := ⟨by decide +kernel, rfl⟩
theorem d_jdk_65_method_131_37 : Dec jdk_65_method_131_code 37 (.return_) 1 38 := ⟨by decide +kernel, rfl⟩
set_option maxRecDepth 65536 in
set_option maxHeartbeats 40000000 in
theorem c_ckl (l : Launch) (Z : State) (a0 : Array Value) (hw : ∀ d ∈ tables_1, d.before a0 Z = true) (hE : EW Z a0 EL0) {n0 : Nat} {h0 : Heap} (hO : Old Z n0 h0) {n : Nat} (hn : n ≤ 4000) :
    Ctr NW EL0 n0 Z [] l (⟨"java/util/Arrays", "checkLength", "(II)V"⟩ : MethodName) jdk_65_method_131_code 2 none ({ frames := 0, cells := 0, slots := 0, locals := 0 } : Room) #[.int (0 : Int32), .int (Int32.ofNat n)] h0 (RN fun h => h0 = h) := by
  refine Ctr.body (plainFor_of_name pn_5) hE hO (fun x q => nomatch q) (L0 := #[.val (.int (0 : Int32)), .val (.int (Int32.ofNat n))]) (fun m => by first | (simp [entryFrame, mkF, argsToLocals, Value.category, maxLocals]; done) | rfl) ?_
  intro p e s m below meth c T0 W0
  refine Go.iload_n W0.cx d_jdk_65_method_131_0 (v := (Int32.ofNat n)) rfl ?_
  refine Go.iload_n W0.cx d_jdk_65_method_131_1 (v := (0 : Int32)) rfl ?_
  refine Go.icge W0.cx d_jdk_65_method_131_2 (by decide) (q := 37) rfl (fun _ => ?_) (fun hh => (by first | exact absurd (show ¬ Int32.ofNat n < Int32.ofNat 0 by rw [lt_nat (by omega) (by omega)]; omega) hh | exact absurd hh (show ¬ Int32.ofNat n < Int32.ofNat 0 by rw [lt_nat (by omega) (by omega)]; omega)))
  exact Go.vret W0 d_jdk_65_method_131_37 (by decide) (by decide) ⟨rfl, rfl⟩
theorem d_jdk_29_method_69_0 : Dec jdk_29_method_69_code 0 (.iload_n 0) 1 1 := ⟨by decide +kernel, rfl⟩
theorem d_jdk_29_method_69_1 : Dec jdk_29_method_69_code 1 (.iload_n 1) 1 2 := ⟨by decide +kernel, rfl⟩
theorem d_jdk_29_method_69_2 : Dec jdk_29_method_69_code 2 (.if_icmp .gt 7) 3 5 := ⟨by decide +kernel, rfl⟩
theorem d_jdk_29_method_69_9 : Dec jdk_29_method_69_code 9 (.iload_n 1) 1 10 := ⟨by decide +kernel, rfl⟩
theorem d_jdk_29_method_69_10 : Dec jdk_29_method_69_code 10 (.ireturn) 1 11 := ⟨by decide +kernel, rfl⟩
theorem d_jdk_29_method_69_5 : Dec jdk_29_method_69_code 5 (.iload_n 0) 1 6 := ⟨by decide +kernel, rfl⟩
theorem d_jdk_29_method_69_6 : Dec jdk_29_method_69_code 6 (.goto 4) 3 9 := ⟨by decide +kernel, rfl⟩
set_option maxRecDepth 65536 in
set_option maxHeartbeats 40000000 in
theorem c_minN (l : Launch) (Z : State) (a0 : Array Value) (hw : ∀ d ∈ tables_1, d.before a0 Z = true) (hE : EW Z a0 EL0) {n0 : Nat} {h0 : Heap} (hO : Old Z n0 h0) {u n : Nat} (hn : n ≤ u) (hu : u ≤ 4000) :
    Ctr NW EL0 n0 Z [] l (⟨"java/lang/Math", "min", "(II)I"⟩ : MethodName) jdk_29_method_69_code 2 (some .int) ({ frames := 0, cells := 0, slots := 0, locals := 0 } : Room) #[.int (Int32.ofNat u), .int (Int32.ofNat n)] h0 (RV fun w h => w = .int (Int32.ofNat n) ∧ h0 = h) := by
  refine Ctr.body (by decide +kernel) hE hO (fun x q => nomatch q) (L0 := #[.val (.int (Int32.ofNat u)), .val (.int (Int32.ofNat n))]) (fun m => by first | (simp [entryFrame, mkF, argsToLocals, Value.category, maxLocals]; done) | rfl) ?_
  intro p e s m below meth c T0 W0
  refine Go.iload_n W0.cx d_jdk_29_method_69_0 (v := (Int32.ofNat u)) rfl ?_
  refine Go.iload_n W0.cx d_jdk_29_method_69_1 (v := (Int32.ofNat n)) rfl ?_
  refine Go.icgt W0.cx d_jdk_29_method_69_2 (by decide) (q := 9) rfl (fun c1 => ?_) (fun c1 => ?_)
  · refine Go.iload_n W0.cx d_jdk_29_method_69_9 (v := (Int32.ofNat n)) rfl ?_
    exact Go.iret W0 d_jdk_29_method_69_10 (by simp) rfl (by decide) (by decide) ⟨_, rfl, rfl, rfl⟩
  · refine Go.iload_n W0.cx d_jdk_29_method_69_5 (v := (Int32.ofNat u)) rfl ?_
    refine Go.goto W0.cx d_jdk_29_method_69_6 (by decide) (q := 10) rfl ?_
    exact Go.iret W0 d_jdk_29_method_69_10 (by simp) rfl (by decide) (by decide) ⟨_, rfl, by rw [show u = n from by have : ¬ n < u := fun z => c1 ((lt_nat (by omega) (by omega)).mpr z); omega], rfl⟩
theorem d_jdk_65_method_133_0 : Dec jdk_65_method_133_code 0 (.iload_n 1) 1 1 := ⟨by decide +kernel, rfl⟩
theorem d_jdk_65_method_133_1 : Dec jdk_65_method_133_code 1 (.iload_n 2) 1 2 := ⟨by decide +kernel, rfl⟩
theorem d_jdk_65_method_133_2 : Dec jdk_65_method_133_code 2 (.invokestatic 343) 3 5 := ⟨by decide +kernel, rfl⟩
theorem pd_9 : parseMethodDescriptor "(II)V" = some ⟨[.int, .int], none⟩ := by decide +kernel
theorem d_jdk_65_method_133_5 : Dec jdk_65_method_133_code 5 (.iload_n 2) 1 6 := ⟨by decide +kernel, rfl⟩
theorem d_jdk_65_method_133_6 : Dec jdk_65_method_133_code 6 (.iload_n 1) 1 7 := ⟨by decide +kernel, rfl⟩
theorem d_jdk_65_method_133_7 : Dec jdk_65_method_133_code 7 (.isub) 1 8 := ⟨by decide +kernel, rfl⟩
theorem d_jdk_65_method_133_8 : Dec jdk_65_method_133_code 8 (.istore_n 3) 1 9 := ⟨by decide +kernel, rfl⟩
theorem d_jdk_65_method_133_9 : Dec jdk_65_method_133_code 9 (.iload_n 3) 1 10 := ⟨by decide +kernel, rfl⟩
theorem d_jdk_65_method_133_10 : Dec jdk_65_method_133_code 10 (.newarray .byte) 2 12 := ⟨by decide +kernel, rfl⟩
theorem d_jdk_65_method_133_12 : Dec jdk_65_method_133_code 12 (.astore 4) 2 14 := ⟨by decide +kernel, rfl⟩
theorem d_jdk_65_method_133_14 : Dec jdk_65_method_133_code 14 (.aload_n 0) 1 15 := ⟨by decide +kernel, rfl⟩
theorem d_jdk_65_method_133_15 : Dec jdk_65_method_133_code 15 (.iload_n 1) 1 16 := ⟨by decide +kernel, rfl⟩
theorem d_jdk_65_method_133_16 : Dec jdk_65_method_133_code 16 (.aload 4) 2 18 := ⟨by decide +kernel, rfl⟩
theorem d_jdk_65_method_133_18 : Dec jdk_65_method_133_code 18 (.iconst 0) 1 19 := ⟨by decide +kernel, rfl⟩
theorem d_jdk_65_method_133_19 : Dec jdk_65_method_133_code 19 (.aload_n 0) 1 20 := ⟨by decide +kernel, rfl⟩
theorem d_jdk_65_method_133_20 : Dec jdk_65_method_133_code 20 (.arraylength) 1 21 := ⟨by decide +kernel, rfl⟩
theorem d_jdk_65_method_133_21 : Dec jdk_65_method_133_code 21 (.iload_n 1) 1 22 := ⟨by decide +kernel, rfl⟩
theorem d_jdk_65_method_133_22 : Dec jdk_65_method_133_code 22 (.isub) 1 23 := ⟨by decide +kernel, rfl⟩
theorem d_jdk_65_method_133_23 : Dec jdk_65_method_133_code 23 (.iload_n 3) 1 24 := ⟨by decide +kernel, rfl⟩
theorem d_jdk_65_method_133_24 : Dec jdk_65_method_133_code 24 (.invokestatic 304) 3 27 := ⟨by decide +kernel, rfl⟩
theorem pd_10 : parseMethodDescriptor "(II)I" = some ⟨[.int, .int], some .int⟩ := by decide +kernel
theorem d_jdk_65_method_133_27 : Dec jdk_65_method_133_code 27 (.invokestatic 150) 3 30 := ⟨by decide +kernel, rfl⟩
theorem d_jdk_65_method_133_30 : Dec jdk_65_method_133_code 30 (.aload 4) 2 32 := ⟨by decide +kernel, rfl⟩
theorem d_jdk_65_method_133_32 : Dec jdk_65_method_133_code 32 (.areturn) 1 33 := ⟨by decide +kernel, rfl⟩
set_option maxRecDepth 65536 in
set_option maxHeartbeats 40000000 in
theorem c_corb (l : Launch) (Z : State) (a0 : Array Value) (hw : ∀ d ∈ tables_1, d.before a0 Z = true) (hE : EW Z a0 EL0) {n0 : Nat} {h0 : Heap} (hO : Old Z n0 h0) {b : Addr} {kb : ClassId} {bs : List Int32} (A : BArr Z h0 b kb bs) (hl : bs.length ≤ 4000) {n : Nat} (hn : n < bs.length) (hcap : n ≤ 8) :
    Ctr NW EL0 n0 Z [] l (⟨"java/util/Arrays", "copyOfRangeByte", "([BII)[B"⟩ : MethodName) jdk_65_method_133_code 5 (some (.array .byte)) ({ frames := 1, cells := 1, slots := 8, locals := 18 } : Room) #[.ref b, .int (0 : Int32), .int (Int32.ofNat n)] h0 (RV fun w h => ∃ r kr, w = .ref r ∧ Ext h0 h ∧ h0.size ≤ r ∧ BArr Z h r kr (bs.take n)) := by
  refine Ctr.body (plainFor_of_name pn_5) hE hO (fun x q => nomatch q) (L0 := #[.val (.ref b), .val (.int (0 : Int32)), .val (.int (Int32.ofNat n)), .unset, .unset]) (fun m => by first | (simp [entryFrame, mkF, argsToLocals, Value.category, maxLocals]; done) | rfl) ?_
  intro p e s m below meth c T0 W0
  refine Go.iload_n W0.cx d_jdk_65_method_133_0 (v := (0 : Int32)) rfl ?_
  refine Go.iload_n W0.cx d_jdk_65_method_133_1 (v := (Int32.ofNat n)) rfl ?_
  refine Go.invs0 W0 (Ctr.call (wt := 0) (c_ckl l Z a0 hw hE W0.old (n := n) (by omega)) W0.ew (wd hw 193 rfl) (wd hw 186 rfl) (by simp) (by decide) (by decide)) d_jdk_65_method_133_2 (wd hw 191 rfl) (wd hw 192 rfl) (wd hw 186 rfl) (wd hw 193 rfl) (by decide) pd_9 rfl rfl (rest := []) rfl (Nat.le_of_eq rfl) (cells' := 0) (slots' := 0) rfl rfl (by decide) (by decide) ?_
  rintro T1 h1 W1 z1 e1
  subst e1
  refine Go.iload_n W1.cx d_jdk_65_method_133_5 (v := (Int32.ofNat n)) rfl ?_
  refine Go.iload_n W1.cx d_jdk_65_method_133_6 (v := (0 : Int32)) rfl ?_
  refine Go.isub W1.cx d_jdk_65_method_133_7 ?_
  refine Go.top (show Int32.ofNat n - 0 = Int32.ofNat n from Int32.sub_zero _) ?_
  refine Go.istore_n W1.cx d_jdk_65_method_133_8 (L' := #[.val (.ref b), .val (.int (0 : Int32)), .val (.int (Int32.ofNat n)), .val (.int (Int32.ofNat n)), .unset]) rfl ?_
  refine Go.iload_n W1.cx d_jdk_65_method_133_9 (v := (Int32.ofNat n)) rfl ?_
  refine Go.newarr W1 d_jdk_65_method_133_10 (wd hw 22 rfl) (z := (Int32.ofNat n)) (cap := 8) (by rw [Int32.lt_iff_toInt_lt, toInt_nat (by omega)]; show ¬ ((n : Int) < 0); omega) (by rw [clamp_nat (by omega)]; exact hcap) (by decide) (cells' := 1) (slots' := 8) rfl rfl (by decide) (by decide) ?_
  intro T2 h2 a2 ka2 g2 W2 E2 A2
  have V2 : BArr Z h2 a2 ka2 (List.replicate n 0) := BArr.of_new A2 (k := n) rfl rfl
  have A2b := A.ext E2
  refine Go.astore W2.cx d_jdk_65_method_133_12 (L' := #[.val (.ref b), .val (.int (0 : Int32)), .val (.int (Int32.ofNat n)), .val (.int (Int32.ofNat n)), .val (.ref a2)]) rfl rfl ?_
  refine Go.aload_n W2.cx d_jdk_65_method_133_14 (v := (.ref b)) rfl rfl ?_
  refine Go.iload_n W2.cx d_jdk_65_method_133_15 (v := (0 : Int32)) rfl ?_
  refine Go.aload W2.cx d_jdk_65_method_133_16 (v := (.ref a2)) rfl rfl ?_
  refine Go.iconst W2.cx d_jdk_65_method_133_18 (z := (0 : Int32)) rfl ?_
  refine Go.aload_n W2.cx d_jdk_65_method_133_19 (v := (.ref b)) rfl rfl ?_
  refine Go.alen W2 d_jdk_65_method_133_20 A2b ?_
  refine Go.iload_n W2.cx d_jdk_65_method_133_21 (v := (0 : Int32)) rfl ?_
  refine Go.isub W2.cx d_jdk_65_method_133_22 ?_
  refine Go.top (show Int32.ofNat bs.length - 0 = Int32.ofNat bs.length from Int32.sub_zero _) ?_
  refine Go.iload_n W2.cx d_jdk_65_method_133_23 (v := (Int32.ofNat n)) rfl ?_
  refine Go.invs1 W2 (Ctr.call (wt := 4) (c_minN l Z a0 hw hE W2.old (u := bs.length) (n := n) (by omega) hl) W2.ew (wd hw 197 rfl) (wd hw 196 rfl) (by simp) (by decide) (by decide)) d_jdk_65_method_133_24 (wd hw 194 rfl) (wd hw 195 rfl) (wd hw 196 rfl) (wd hw 197 rfl) (by decide) pd_10 rfl rfl (rest := [(.int (0 : Int32)), (.ref a2), (.int (0 : Int32)), (.ref b)]) rfl (Nat.le_of_eq rfl) (cells' := 1) (slots' := 8) rfl rfl (by decide) (by decide) ?_
  rintro T3 h3 _ W3 z3 ⟨rfl, e3⟩
  subst e3
  refine Go.acopyB W3 (sp := 0) (nn := n) d_jdk_65_method_133_27 (wd hw 198 rfl) (wd hw 201 rfl) (wd hw 199 rfl) (wd hw 200 rfl) A2b V2 (by simp) (by omega) (by simp) (by omega) (by simp; omega) rfl (by decide) (wt := 0) (Nat.le_of_eq rfl) (by decide) ?_
  intro T4 h4 W4 K4 V4
  refine Go.aload W4.cx d_jdk_65_method_133_30 (v := (.ref a2)) rfl rfl ?_
  exact Go.aret W4 d_jdk_65_method_133_32 rfl rfl rfl (by decide) (by decide) ⟨_, rfl, _, _, rfl, ext_keep E2 K4 (all1 (Nat.le_of_eq g2.symm)), Nat.le_of_eq g2.symm, by simpa using V4⟩
theorem d_jdk_65_method_132_0 : Dec jdk_65_method_132_code 0 (.iload_n 1) 1 1 := ⟨by decide +kernel, rfl⟩
theorem d_jdk_65_method_132_1 : Dec jdk_65_method_132_code 1 (.ifCond .ne 9) 3 4 := ⟨by decide +kernel, rfl⟩
theorem d_jdk_65_method_132_4 : Dec jdk_65_method_132_code 4 (.iload_n 2) 1 5 := ⟨by decide +kernel, rfl⟩
theorem d_jdk_65_method_132_5 : Dec jdk_65_method_132_code 5 (.aload_n 0) 1 6 := ⟨by decide +kernel, rfl⟩
theorem d_jdk_65_method_132_6 : Dec jdk_65_method_132_code 6 (.arraylength) 1 7 := ⟨by decide +kernel, rfl⟩
theorem d_jdk_65_method_132_7 : Dec jdk_65_method_132_code 7 (.if_icmp .eq 10) 3 10 := ⟨by decide +kernel, rfl⟩
theorem d_jdk_65_method_132_10 : Dec jdk_65_method_132_code 10 (.aload_n 0) 1 11 := ⟨by decide +kernel, rfl⟩
theorem d_jdk_65_method_132_11 : Dec jdk_65_method_132_code 11 (.iload_n 1) 1 12 := ⟨by decide +kernel, rfl⟩
theorem d_jdk_65_method_132_12 : Dec jdk_65_method_132_code 12 (.iload_n 2) 1 13 := ⟨by decide +kernel, rfl⟩
theorem d_jdk_65_method_132_13 : Dec jdk_65_method_132_code 13 (.invokestatic 339) 3 16 := ⟨by decide +kernel, rfl⟩
theorem pd_11 : parseMethodDescriptor "([BII)[B" = some ⟨[(.array .byte), .int, .int], some (.array .byte)⟩ := by decide +kernel
theorem d_jdk_65_method_132_16 : Dec jdk_65_method_132_code 16 (.areturn) 1 17 := ⟨by decide +kernel, rfl⟩
set_option maxRecDepth 65536 in
set_option maxHeartbeats 40000000 in
theorem c_cor (l : Launch) (Z : State) (a0 : Array Value) (hw : ∀ d ∈ tables_1, d.before a0 Z = true) (hE : EW Z a0 EL0) {n0 : Nat} {h0 : Heap} (hO : Old Z n0 h0) {b : Addr} {kb : ClassId} {bs : List Int32} (A : BArr Z h0 b kb bs) (hl : bs.length ≤ 4000) {n : Nat} (hn : n < bs.length) (hcap : n ≤ 8) :
    Ctr NW EL0 n0 Z [] l (⟨"java/util/Arrays", "copyOfRange", "([BII)[B"⟩ : MethodName) jdk_65_method_132_code 3 (some (.array .byte)) ({ frames := 2, cells := 1, slots := 8, locals := 34 } : Room) #[.ref b, .int (0 : Int32), .int (Int32.ofNat n)] h0 (RV fun w h => ∃ r kr, w = .ref r ∧ Ext h0 h ∧ h0.size ≤ r ∧ BArr Z h r kr (bs.take n)) := by
  refine Ctr.body (plainFor_of_name pn_5) hE hO (fun x q => nomatch q) (L0 := #[.val (.ref b), .val (.int (0 : Int32)), .val (.int (Int32.ofNat n))]) (fun m => by first | (simp [entryFrame, mkF, argsToLocals, Value.category, maxLocals]; done) | rfl) ?_
  intro p e s m below meth c T0 W0
  refine Go.iload_n W0.cx d_jdk_65_method_132_0 (v := (0 : Int32)) rfl ?_
  refine Go.ifne W0.cx d_jdk_65_method_132_1 (by decide) (q := 10) rfl (fun hh => (by first | exact absurd (rfl : (0 : Int32) = 0) hh | exact absurd hh (rfl : (0 : Int32) = 0))) (fun _ => ?_)
  refine Go.iload_n W0.cx d_jdk_65_method_132_4 (v := (Int32.ofNat n)) rfl ?_
  refine Go.aload_n W0.cx d_jdk_65_method_132_5 (v := (.ref b)) rfl rfl ?_
  refine Go.alen W0 d_jdk_65_method_132_6 A ?_
  refine Go.iceq W0.cx d_jdk_65_method_132_7 (by decide) (q := 17) rfl (fun hh => (by first | exact absurd (show ¬ Int32.ofNat n = Int32.ofNat bs.length by rw [eq_nat (by omega) (by omega)]; omega) hh | exact absurd hh (show ¬ Int32.ofNat n = Int32.ofNat bs.length by rw [eq_nat (by omega) (by omega)]; omega))) (fun _ => ?_)
  refine Go.aload_n W0.cx d_jdk_65_method_132_10 (v := (.ref b)) rfl rfl ?_
  refine Go.iload_n W0.cx d_jdk_65_method_132_11 (v := (0 : Int32)) rfl ?_
  refine Go.iload_n W0.cx d_jdk_65_method_132_12 (v := (Int32.ofNat n)) rfl ?_
  refine Go.invs1 W0 (Ctr.call (wt := 0) (c_corb l Z a0 hw hE W0.old A hl hn hcap) W0.ew (wd hw 190 rfl) (wd hw 186 rfl) (by simp) (by decide) (by decide)) d_jdk_65_method_132_13 (wd hw 188 rfl) (wd hw 189 rfl) (wd hw 186 rfl) (wd hw 190 rfl) (by decide) pd_11 rfl rfl (rest := []) rfl (Nat.le_of_eq rfl) (cells' := 1) (slots' := 8) rfl rfl (by decide) (by decide) ?_
  rintro T1 h1 _ W1 z1 ⟨r1, kr1, rfl, E1, l1, V1⟩
  exact Go.aret W1 d_jdk_65_method_132_16 rfl rfl rfl (by decide) (by decide) ⟨_, rfl, _, _, rfl, E1, l1, V1⟩
theorem d_jdk_68_method_64_0 : Dec jdk_68_method_64_code 0 (.aload_n 0) 1 1 := ⟨by decide +kernel, rfl⟩
theorem d_jdk_68_method_64_1 : Dec jdk_68_method_64_code 1 (.getfield 15) 3 4 := ⟨by decide +kernel, rfl⟩
theorem d_jdk_68_method_64_4 : Dec jdk_68_method_64_code 4 (.areturn) 1 5 := ⟨by decide +kernel, rfl⟩
set_option maxRecDepth 65536 in
set_option maxHeartbeats 40000000 in
theorem c_gv (l : Launch) (Z : State) (a0 : Array Value) (hw : ∀ d ∈ tables_1, d.before a0 Z = true) (hE : EW Z a0 EL0) {n0 : Nat} {h0 : Heap} (hO : Old Z n0 h0) {a b : Addr} {kb : ClassId} {cs : List Int32} (B : SBd Z h0 a b kb cs) :
    Ctr NW EL0 n0 Z [] l (⟨"java/lang/AbstractStringBuilder", "getValue", "()[B"⟩ : MethodName) jdk_68_method_64_code 1 (some (.array .byte)) ({ frames := 0, cells := 0, slots := 0, locals := 0 } : Room) #[.ref a] h0 (RV fun w h => w = .ref b ∧ h0 = h) := by
  refine Ctr.body (plainFor_of_name pn_2) hE hO (fun x q => nomatch q) (L0 := #[.val (.ref a)]) (fun m => by first | (simp [entryFrame, mkF, argsToLocals, Value.category, maxLocals]; done) | rfl) ?_
  intro p e s m below meth c T0 W0
  obtain ⟨EX, Fv, Fc, Fn, ⟨bs, BA, hbs, htk⟩, hch, h8, hab⟩ := id B
  refine Go.aload_n W0.cx d_jdk_68_method_64_0 (v := (.ref a)) rfl rfl ?_
  refine Go.getf W0 d_jdk_68_method_64_1 (wd hw 106 rfl) Via.refl Fv ?_
  intro T1 W1
  exact Go.aret W1 d_jdk_68_method_64_4 rfl rfl rfl (by decide) (by decide) ⟨_, rfl, rfl, rfl⟩
theorem d_jdk_68_method_6_0 : Dec jdk_68_method_6_code 0 (.aload_n 0) 1 1 := ⟨by decide +kernel, rfl⟩
theorem d_jdk_68_method_6_1 : Dec jdk_68_method_6_code 1 (.getfield 79) 3 4 := ⟨by decide +kernel, rfl⟩
theorem d_jdk_68_method_6_4 : Dec jdk_68_method_6_code 4 (.ireturn) 1 5 := ⟨by decide +kernel, rfl⟩
set_option maxRecDepth 65536 in
set_option maxHeartbeats 40000000 in
theorem c_asbl (l : Launch) (Z : State) (a0 : Array Value) (hw : ∀ d ∈ tables_1, d.before a0 Z = true) (hE : EW Z a0 EL0) {n0 : Nat} {h0 : Heap} (hO : Old Z n0 h0) {a b : Addr} {kb : ClassId} {cs : List Int32} (B : SBd Z h0 a b kb cs) :
    Ctr NW EL0 n0 Z [] l (⟨"java/lang/AbstractStringBuilder", "length", "()I"⟩ : MethodName) jdk_68_method_6_code 1 (some .int) ({ frames := 0, cells := 0, slots := 0, locals := 0 } : Room) #[.ref a] h0 (RV fun w h => w = .int (Int32.ofNat cs.length) ∧ h0 = h) := by
  refine Ctr.body (plainFor_of_name pn_2) hE hO (fun x q => nomatch q) (L0 := #[.val (.ref a)]) (fun m => by first | (simp [entryFrame, mkF, argsToLocals, Value.category, maxLocals]; done) | rfl) ?_
  intro p e s m below meth c T0 W0
  obtain ⟨EX, Fv, Fc, Fn, ⟨bs, BA, hbs, htk⟩, hch, h8, hab⟩ := id B
  refine Go.aload_n W0.cx d_jdk_68_method_6_0 (v := (.ref a)) rfl rfl ?_
  refine Go.getf W0 d_jdk_68_method_6_1 (wd hw 143 rfl) Via.refl Fn ?_
  intro T1 W1
  exact Go.iret W1 d_jdk_68_method_6_4 (by simp) rfl (by decide) (by decide) ⟨_, rfl, rfl, rfl⟩
theorem d_jdk_67_method_93_0 : Dec jdk_67_method_93_code 0 (.aload_n 0) 1 1 := ⟨by decide +kernel, rfl⟩
theorem d_jdk_67_method_93_1 : Dec jdk_67_method_93_code 1 (.invokespecial 343) 3 4 := ⟨by decide +kernel, rfl⟩
theorem d_jdk_67_method_93_4 : Dec jdk_67_method_93_code 4 (.ireturn) 1 5 := ⟨by decide +kernel, rfl⟩
set_option maxRecDepth 65536 in
set_option maxHeartbeats 40000000 in
theorem c_sbl (l : Launch) (Z : State) (a0 : Array Value) (hw : ∀ d ∈ tables_1, d.before a0 Z = true) (hE : EW Z a0 EL0) {n0 : Nat} {h0 : Heap} (hO : Old Z n0 h0) {a b : Addr} {kb : ClassId} {cs : List Int32} (B : SBd Z h0 a b kb cs) :
    Ctr NW EL0 n0 Z [] l (⟨"java/lang/StringBuilder", "length", "()I"⟩ : MethodName) jdk_67_method_93_code 1 (some .int) ({ frames := 1, cells := 0, slots := 0, locals := 12 } : Room) #[.ref a] h0 (RV fun w h => w = .int (Int32.ofNat cs.length) ∧ h0 = h) := by
  refine Ctr.body (plainFor_of_name pn_3) hE hO (fun x q => nomatch q) (L0 := #[.val (.ref a)]) (fun m => by first | (simp [entryFrame, mkF, argsToLocals, Value.category, maxLocals]; done) | rfl) ?_
  intro p e s m below meth c T0 W0
  obtain ⟨EX, Fv, Fc, Fn, ⟨bs, BA, hbs, htk⟩, hch, h8, hab⟩ := id B
  refine Go.aload_n W0.cx d_jdk_67_method_93_0 (v := (.ref a)) rfl rfl ?_
  refine Go.sup1 (y := (⟨"java/lang/AbstractStringBuilder", "length", "()I"⟩ : MethodName)) W0 (wd hw 153 rfl) rfl (Ctr.call (wt := 0) (c_asbl l Z a0 hw hE W0.old B) W0.ew (wd hw 182 rfl) (wd hw 102 rfl) (by simp) (by decide) (by decide)) d_jdk_67_method_93_1 (by decide) (wd hw 181 rfl) (wd hw 177 rfl) (wd hw 140 rfl) (wd hw 182 rfl) (by decide) (Ins.self EX) pd_1 rfl rfl (rest := []) rfl (Nat.le_of_eq rfl) (cells' := 0) (slots' := 0) rfl rfl (by decide) (by decide) ?_
  rintro T1 h1 _ W1 z1 ⟨rfl, e1⟩
  subst e1
  exact Go.iret W1 d_jdk_67_method_93_4 (by simp) rfl (by decide) (by decide) ⟨_, rfl, rfl, rfl⟩
theorem d_jdk_42_method_150_0 : Dec jdk_42_method_150_code 0 (.aload_n 0) 1 1 := ⟨by decide +kernel, rfl⟩
theorem d_jdk_42_method_150_1 : Dec jdk_42_method_150_code 1 (.invokespecial 1) 3 4 := ⟨by decide +kernel, rfl⟩
theorem d_jdk_42_method_150_4 : Dec jdk_42_method_150_code 4 (.aload_n 1) 1 5 := ⟨by decide +kernel, rfl⟩
theorem d_jdk_42_method_150_5 : Dec jdk_42_method_150_code 5 (.invokevirtual 552) 3 8 := ⟨by decide +kernel, rfl⟩
theorem pd_12 : parseMethodDescriptor "()[B" = some ⟨[], some (.array .byte)⟩ := by decide +kernel
theorem d_jdk_42_method_150_8 : Dec jdk_42_method_150_code 8 (.astore_n 3) 1 9 := ⟨by decide +kernel, rfl⟩
theorem d_jdk_42_method_150_9 : Dec jdk_42_method_150_code 9 (.aload_n 1) 1 10 := ⟨by decide +kernel, rfl⟩
theorem d_jdk_42_method_150_10 : Dec jdk_42_method_150_code 10 (.invokevirtual 549) 3 13 := ⟨by decide +kernel, rfl⟩
theorem d_jdk_42_method_150_13 : Dec jdk_42_method_150_code 13 (.istore 4) 2 15 := ⟨by decide +kernel, rfl⟩
theorem d_jdk_42_method_150_15 : Dec jdk_42_method_150_code 15 (.aload_n 1) 1 16 := ⟨by decide +kernel, rfl⟩
theorem d_jdk_42_method_150_16 : Dec jdk_42_method_150_code 16 (.invokevirtual 1047) 3 19 := ⟨by decide +kernel, rfl⟩
theorem d_jdk_42_method_150_19 : Dec jdk_42_method_150_code 19 (.ifCond .eq 22) 3 22 := ⟨by decide +kernel, rfl⟩
theorem d_jdk_42_method_150_22 : Dec jdk_42_method_150_code 22 (.aload_n 0) 1 23 := ⟨by decide +kernel, rfl⟩
theorem d_jdk_42_method_150_23 : Dec jdk_42_method_150_code 23 (.iconst 0) 1 24 := ⟨by decide +kernel, rfl⟩
theorem d_jdk_42_method_150_24 : Dec jdk_42_method_150_code 24 (.putfield 15) 3 27 := ⟨by decide +kernel, rfl⟩
theorem d_jdk_42_method_150_27 : Dec jdk_42_method_150_code 27 (.aload_n 0) 1 28 := ⟨by decide +kernel, rfl⟩
theorem d_jdk_42_method_150_28 : Dec jdk_42_method_150_code 28 (.aload_n 3) 1 29 := ⟨by decide +kernel, rfl⟩
theorem d_jdk_42_method_150_29 : Dec jdk_42_method_150_code 29 (.iconst 0) 1 30 := ⟨by decide +kernel, rfl⟩
theorem d_jdk_42_method_150_30 : Dec jdk_42_method_150_code 30 (.iload 4) 2 32 := ⟨by decide +kernel, rfl⟩
theorem d_jdk_42_method_150_32 : Dec jdk_42_method_150_code 32 (.invokestatic 54) 3 35 := ⟨by decide +kernel, rfl⟩
theorem d_jdk_42_method_150_35 : Dec jdk_42_method_150_code 35 (.putfield 9) 3 38 := ⟨by decide +kernel, rfl⟩
theorem d_jdk_42_method_150_38 : Dec jdk_42_method_150_code 38 (.goto 59) 3 41 := ⟨by decide +kernel, rfl⟩
theorem d_jdk_42_method_150_97 : Dec jdk_42_method_150_code 97 (.return_) 1 98 := ⟨by decide +kernel, rfl⟩
set_option maxRecDepth 65536 in
set_option maxHeartbeats 40000000 in
theorem c_s150 (l : Launch) (Z : State) (a0 : Array Value) (hw : ∀ d ∈ tables_1, d.before a0 Z = true) (hE : EW Z a0 EL0) {n0 : Nat} {h0 : Heap} (hO : Old Z n0 h0) (hG : Gl Z) {a b : Addr} {kb : ClassId} {cs : List Int32} (B : SBd Z h0 a b kb cs) {y : Addr} (hy : n0 ≤ y) (N_y : NewS Z h0 y) (hyb : b ≠ y) :
    Ctr NW EL0 n0 Z [y] l (⟨"java/lang/String", "<init>", "(Ljava/lang/AbstractStringBuilder;Ljava/lang/Void;)V"⟩ : MethodName) jdk_42_method_150_code 5 none ({ frames := 3, cells := 1, slots := 8, locals := 49 } : Room) #[.ref y, .ref a, .null] h0 (RN fun h => Keep h0 h [y] ∧ Str Z h y cs) := by
  refine Ctr.body (plainFor_of_name pn_0) hE hO (fun z q => by cases List.mem_singleton.mp q; exact ⟨hy, N_y.1.lt⟩) (L0 := #[.val (.ref y), .val (.ref a), .val .null, .unset, .unset]) (fun m => by first | (simp [entryFrame, mkF, argsToLocals, Value.category, maxLocals]; done) | rfl) ?_
  intro p e s m below meth c T0 W0
  obtain ⟨EX, Fv, Fc, Fn, ⟨bs, BA, hbs, htk⟩, hch, h8, hab⟩ := id B
  refine Go.aload_n W0.cx d_jdk_42_method_150_0 (v := (.ref y)) rfl rfl ?_
  refine Go.initObj W0 d_jdk_42_method_150_1 (wd hw 18 rfl) (wd hw 19 rfl) (wd hw 20 rfl) rfl (by decide) (wt := 0) rfl (by decide) ?_
  intro T1 W1
  refine Go.aload_n W1.cx d_jdk_42_method_150_4 (v := (.ref a)) rfl rfl ?_
  refine Go.invv1 W1 (Ctr.call (wt := 0) (c_gv l Z a0 hw hE W1.old B) W1.ew (wd hw 174 rfl) (wd hw 102 rfl) (by simp) (by decide) (by decide)) d_jdk_42_method_150_5 (wd hw 170 rfl) (wd hw 171 rfl) (wd hw 173 rfl) (wd hw 172 rfl) (by decide) EX pd_12 rfl rfl (rest := []) rfl (Nat.le_of_eq rfl) (cells' := 0) (slots' := 0) rfl rfl (by decide) (by decide) ?_
  rintro T2 h2 _ W2 z2 ⟨rfl, e2⟩
  subst e2
  refine Go.astore_n W2.cx d_jdk_42_method_150_8 (L' := #[.val (.ref y), .val (.ref a), .val .null, .val (.ref b), .unset]) rfl rfl ?_
  refine Go.aload_n W2.cx d_jdk_42_method_150_9 (v := (.ref a)) rfl rfl ?_
  refine Go.invvS1 (y := (⟨"java/lang/AbstractStringBuilder", "length", "()I"⟩ : MethodName)) W2 (wd hw 153 rfl) rfl (Ctr.call (wt := 0) (c_sbl l Z a0 hw hE W2.old B) W2.ew (wd hw 180 rfl) (wd hw 94 rfl) (by simp) (by decide) (by decide)) d_jdk_42_method_150_10 (wd hw 175 rfl) (wd hw 176 rfl) (wd hw 178 rfl) (wd hw 179 rfl) (by decide) EX pd_1 rfl rfl (rest := []) rfl (Nat.le_of_eq rfl) (cells' := 0) (slots' := 0) rfl rfl (by decide) (by decide) ?_
  rintro T3 h3 _ W3 z3 ⟨rfl, e3⟩
  subst e3
  refine Go.istore W3.cx d_jdk_42_method_150_13 (L' := #[.val (.ref y), .val (.ref a), .val .null, .val (.ref b), .val (.int (Int32.ofNat cs.length))]) rfl ?_
  refine Go.aload_n W3.cx d_jdk_42_method_150_15 (v := (.ref a)) rfl rfl ?_
  refine Go.invv1 W3 (Ctr.call (wt := 0) (c_asbL1 l Z a0 hw hE W3.old hG B) W3.ew (wd hw 154 rfl) (wd hw 102 rfl) (by simp) (by decide) (by decide)) d_jdk_42_method_150_16 (wd hw 183 rfl) (wd hw 151 rfl) (wd hw 153 rfl) (wd hw 152 rfl) (by decide) EX pd_6 rfl rfl (rest := []) rfl (Nat.le_of_eq rfl) (cells' := 0) (slots' := 0) rfl rfl (by decide) (by decide) ?_
  rintro T4 h4 _ W4 z4 ⟨rfl, e4⟩
  subst e4
  refine Go.ifeq W4.cx d_jdk_42_method_150_19 (by decide) (q := 41) rfl (fun hh => (by first | exact absurd (by decide : ¬ (1 : Int32) = 0) hh | exact absurd hh (by decide : ¬ (1 : Int32) = 0))) (fun _ => ?_)
  refine Go.aload_n W4.cx d_jdk_42_method_150_22 (v := (.ref y)) rfl rfl ?_
  refine Go.iconst W4.cx d_jdk_42_method_150_23 (z := (0 : Int32)) rfl ?_
  refine Go.putf W4 d_jdk_42_method_150_24 (wd hw 28 rfl) Via.refl N_y.2.2 N_y.1 (Or.inr ⟨(wd hw 24 rfl), rfl, rfl⟩) (wd hw 8 rfl) (t := .byte) (by decide) (v' := (.int 0)) rfl rfl (by simp) ?_
  intro T5 h5 W5 R5
  have BA5 : BArr Z h5 b kb bs := Arv.other BA R5 hyb
  have Mc5 := N_y.2.2.same R5
  have Mx5 := N_y.1.wr R5
  have Mv5 := N_y.2.1.other R5 (Or.inr (slot_ne (Or.inr (wd hw 23 rfl)) (Or.inr (wd hw 24 rfl)) (by decide) (t := .array .byte) (t' := .byte) (by decide) (by decide)))
  refine Go.aload_n W5.cx d_jdk_42_method_150_27 (v := (.ref y)) rfl rfl ?_
  refine Go.aload_n W5.cx d_jdk_42_method_150_28 (v := (.ref b)) rfl rfl ?_
  refine Go.iconst W5.cx d_jdk_42_method_150_29 (z := (0 : Int32)) rfl ?_
  refine Go.iload W5.cx d_jdk_42_method_150_30 (v := (Int32.ofNat cs.length)) rfl ?_
  refine Go.invs1 W5 (Ctr.call (wt := 1) (c_cor l Z a0 hw hE W5.old BA5 (by omega) (n := cs.length) (by omega) h8) W5.ew (wd hw 187 rfl) (wd hw 186 rfl) (by simp) (by decide) (by decide)) d_jdk_42_method_150_32 (wd hw 184 rfl) (wd hw 185 rfl) (wd hw 186 rfl) (wd hw 187 rfl) (by decide) pd_11 rfl rfl (rest := [(.ref y)]) rfl (Nat.le_of_eq rfl) (cells' := 1) (slots' := 8) rfl rfl (by decide) (by decide) ?_
  rintro T6 h6 _ W6 z6 ⟨b6, kb6, rfl, E6, l6, V6⟩
  rw [htk] at V6
  have hne6 := ne_ge' Mx5.lt l6
  refine Go.putf W6 d_jdk_42_method_150_35 (wd hw 27 rfl) Via.refl (Mv5.ext E6) (Mx5.ext E6) (Or.inr ⟨(wd hw 23 rfl), rfl, rfl⟩) (wd hw 8 rfl) (t := (.array .byte)) (by decide) (v' := (.ref b6)) rfl rfl (by simp) ?_
  intro T7 h7 W7 R7
  have Mc7 := (Mc5.ext E6).other R7 (Or.inr (slot_ne (Or.inr (wd hw 24 rfl)) (Or.inr (wd hw 23 rfl)) (by decide) (t := .byte) (t' := .array .byte) (by decide) (by decide)))
  refine Go.goto W7.cx d_jdk_42_method_150_38 (by decide) (q := 97) rfl ?_
  exact Go.vret W7 d_jdk_42_method_150_97 (by decide) (by decide) ⟨rfl, (((Keep.refl h0 [y]).wr R5 (Or.inl (by simp))).ext E6).wr R7 (Or.inl (by simp)), (Mx5.ext E6).wr R7, Mc7, ⟨b6, kb6, (Mv5.ext E6).same R7, Arv.other V6 R7 hne6⟩, hch, by omega⟩
theorem d_jdk_42_method_53_0 : Dec jdk_42_method_53_code 0 (.aload_n 0) 1 1 := ⟨by decide +kernel, rfl⟩
theorem d_jdk_42_method_53_1 : Dec jdk_42_method_53_code 1 (.aload_n 1) 1 2 := ⟨by decide +kernel, rfl⟩
theorem d_jdk_42_method_53_2 : Dec jdk_42_method_53_code 2 (.aconst_null) 1 3 := ⟨by decide +kernel, rfl⟩
theorem d_jdk_42_method_53_3 : Dec jdk_42_method_53_code 3 (.invokespecial 489) 3 6 := ⟨by decide +kernel, rfl⟩
theorem pd_13 : parseMethodDescriptor "(Ljava/lang/AbstractStringBuilder;Ljava/lang/Void;)V" = some ⟨[(.object "java/lang/AbstractStringBuilder"), (.object "java/lang/Void")], none⟩ := by decide +kernel
theorem d_jdk_42_method_53_6 : Dec jdk_42_method_53_code 6 (.return_) 1 7 := ⟨by decide +kernel, rfl⟩
set_option maxRecDepth 65536 in
set_option maxHeartbeats 40000000 in
theorem c_s53 (l : Launch) (Z : State) (a0 : Array Value) (hw : ∀ d ∈ tables_1, d.before a0 Z = true) (hE : EW Z a0 EL0) {n0 : Nat} {h0 : Heap} (hO : Old Z n0 h0) (hG : Gl Z) {a b : Addr} {kb : ClassId} {cs : List Int32} (B : SBd Z h0 a b kb cs) {y : Addr} (hy : n0 ≤ y) (N_y : NewS Z h0 y) (hyb : b ≠ y) :
    Ctr NW EL0 n0 Z [y] l (⟨"java/lang/String", "<init>", "(Ljava/lang/StringBuilder;)V"⟩ : MethodName) jdk_42_method_53_code 2 none ({ frames := 4, cells := 1, slots := 8, locals := 65 } : Room) #[.ref y, .ref a] h0 (RN fun h => Keep h0 h [y] ∧ Str Z h y cs) := by
  refine Ctr.body (plainFor_of_name pn_0) hE hO (fun z q => by cases List.mem_singleton.mp q; exact ⟨hy, N_y.1.lt⟩) (L0 := #[.val (.ref y), .val (.ref a)]) (fun m => by first | (simp [entryFrame, mkF, argsToLocals, Value.category, maxLocals]; done) | rfl) ?_
  intro p e s m below meth c T0 W0
  refine Go.aload_n W0.cx d_jdk_42_method_53_0 (v := (.ref y)) rfl rfl ?_
  refine Go.aload_n W0.cx d_jdk_42_method_53_1 (v := (.ref a)) rfl rfl ?_
  refine Go.aconst_null W0.cx d_jdk_42_method_53_2 ?_
  refine Go.invi W0 (Ctr.call (wt := 0) (c_s150 l Z a0 hw hE W0.old hG B hy N_y hyb) W0.ew (wd hw 169 rfl) (wd hw 9 rfl) (by simp) (by decide) (by decide)) d_jdk_42_method_53_3 rfl (wd hw 167 rfl) (wd hw 168 rfl) (wd hw 169 rfl) (by decide) pd_13 rfl rfl (rest := []) rfl (Nat.le_of_eq rfl) (cells' := 1) (slots' := 8) rfl rfl (by decide) (by decide) ?_
  rintro T1 h1 W1 z1 ⟨K1, S1⟩
  exact Go.vret W1 d_jdk_42_method_53_6 (by decide) (by decide) ⟨rfl, K1, S1⟩
theorem d_jdk_67_method_42_0 : Dec jdk_67_method_42_code 0 (.new 18) 3 3 := ⟨by decide +kernel, rfl⟩
theorem d_jdk_67_method_42_3 : Dec jdk_67_method_42_code 3 (.dup) 1 4 := ⟨by decide +kernel, rfl⟩
theorem d_jdk_67_method_42_4 : Dec jdk_67_method_42_code 4 (.aload_n 0) 1 5 := ⟨by decide +kernel, rfl⟩
theorem d_jdk_67_method_42_5 : Dec jdk_67_method_42_code 5 (.invokespecial 137) 3 8 := ⟨by decide +kernel, rfl⟩
theorem pd_14 : parseMethodDescriptor "(Ljava/lang/StringBuilder;)V" = some ⟨[(.object "java/lang/StringBuilder")], none⟩ := by decide +kernel
theorem d_jdk_67_method_42_8 : Dec jdk_67_method_42_code 8 (.areturn) 1 9 := ⟨by decide +kernel, rfl⟩
set_option maxRecDepth 65536 in
set_option maxHeartbeats 40000000 in
theorem c_toS (l : Launch) (Z : State) (a0 : Array Value) (hw : ∀ d ∈ tables_1, d.before a0 Z = true) (hE : EW Z a0 EL0) {n0 : Nat} {h0 : Heap} (hO : Old Z n0 h0) (hG : Gl Z) {a b : Addr} {kb : ClassId} {cs : List Int32} (B : SBd Z h0 a b kb cs) :
    Ctr NW EL0 n0 Z [] l (⟨"java/lang/StringBuilder", "toString", "()Ljava/lang/String;"⟩ : MethodName) jdk_67_method_42_code 1 (some (.object "java/lang/String")) ({ frames := 5, cells := 2, slots := 12, locals := 79 } : Room) #[.ref a] h0 (RV fun w h => ∃ r, w = .ref r ∧ Ext h0 h ∧ Str Z h r cs) := by
  refine Ctr.body (plainFor_of_name pn_3) hE hO (fun x q => nomatch q) (L0 := #[.val (.ref a)]) (fun m => by first | (simp [entryFrame, mkF, argsToLocals, Value.category, maxLocals]; done) | rfl) ?_
  intro p e s m below meth c T0 W0
  obtain ⟨EX, Fv, Fc, Fn, ⟨bs, BA, hbs, htk⟩, hch, h8, hab⟩ := id B
  refine Go.new W0 d_jdk_67_method_42_0 (wd hw 163 rfl) (wd hw 8 rfl) (wd hw 9 rfl) (cells' := 1) (slots' := 4) rfl rfl (by decide) (by decide) ?_
  intro T1 h1 a1 g1 W1 E1 A1 D1
  have N1 : NewS Z h1 a1 := ⟨A1, D1 (Or.inr (wd hw 23 rfl)) (t := .array .byte) (by decide), D1 (Or.inr (wd hw 24 rfl)) (t := .byte) (by decide)⟩
  refine Go.dup W1.cx d_jdk_67_method_42_3 rfl ?_
  refine Go.aload_n W1.cx d_jdk_67_method_42_4 (v := (.ref a)) rfl rfl ?_
  refine Go.invi W1 (Ctr.call (wt := 1) (c_s53 l Z a0 hw hE W1.old hG (B.ext E1) (W1.mine (by simp)).1 N1 (ne_new BA.lt g1)) W1.ew (wd hw 166 rfl) (wd hw 9 rfl) (by simp) (by decide) (by decide)) d_jdk_67_method_42_5 rfl (wd hw 164 rfl) (wd hw 165 rfl) (wd hw 166 rfl) (by decide) pd_14 rfl rfl (rest := [(.ref a1)]) rfl (Nat.le_of_eq rfl) (cells' := 2) (slots' := 12) rfl rfl (by decide) (by decide) ?_
  rintro T2 h2 W2 z2 ⟨K2, S2⟩
  exact Go.aret W2 d_jdk_67_method_42_8 rfl rfl rfl (by decide) (by decide) ⟨_, rfl, _, rfl, ext_keep E1 K2 (all1 (Nat.le_of_eq g1.symm)), S2⟩
theorem hTx {a0 : Array Value} {Z : State} (hw : ∀ d ∈ tables_1, d.before a0 Z = true) {bs : List Int32} (h : bs.length = 16) : ∀ p ∈ EL0, ∃ text : String, (Cond.stringLink p.1 p.2 text).before a0 Z = true ∧ (∀ c ∈ text.toList, c.toNat < 256) ∧ text.toList.length ≠ bs.length := by
  intro p hp
  rw [h]
  rcases List.mem_cons.mp hp with rfl | hp
  · exact ⟨_, wd hw 51 rfl, by decide, by decide⟩
  rcases List.mem_cons.mp hp with rfl | hp
  · exact ⟨_, wd hw 32 rfl, by decide, by decide⟩
  rcases List.mem_cons.mp hp with rfl | hp
  · exact ⟨_, wd hw 21 rfl, by decide, by decide⟩
  · exact nomatch hp
def ue : Bool → List Int32 → List Int32
  | _, [] => []
  | e, c :: r => if c = 92 ∧ e = false then ue true r else c :: ue false r
theorem dropcons {cs : List Int32} {N i : Nat} (h : i < N) (hN : N ≤ cs.length) : (cs.take N).drop i = cs.getD i 0 :: (cs.take N).drop (i + 1) := by
  have hi : i < (cs.take N).length := by rw [List.length_take]; omega
  rw [List.drop_eq_getElem_cons hi]
  congr 1
  rw [List.getElem_take, List.getD_eq_getElem?_getD, List.getElem?_eq_getElem (show i < cs.length by omega)]
  rfl
theorem sw34 {c : Int32} {r : List Int32} : Sw (c :: r) 0 [34] ↔ c = 34 := by
  constructor
  · intro z; exact z.2 0 (by simp)
  · intro z
    refine ⟨by simp, fun i hi => ?_⟩
    obtain rfl : i = 0 := by simpa using hi
    exact z
theorem sw0 : ¬ Sw [] 0 [34] := fun z => absurd z.1 (by decide)
theorem mask76 (x : Int32) : ∃ k : Nat, k < 6 ∧ (x &&& (7 : Int32)) % (6 : Int32) = Int32.ofNat k := by
  obtain ⟨j, hj, e⟩ := and_nat x (7 : Int32) (k := 7) rfl (by decide)
  exact ⟨j % 6, Nat.mod_lt _ (by decide), rem_nat e (by omega) (by decide) (by decide)⟩
theorem pn_6 : plainName "com/example/wheal/wheal/ParameterUnquotedPinLaw" = true := by first | (simp [plainName, overriddenIn]; done) | decide +kernel
theorem d_method_2_0 : Dec method_2_code 0 (.iload_n 0) 1 1 := ⟨by decide +kernel, rfl⟩
theorem d_method_2_1 : Dec method_2_code 1 (.bipush 8) 2 3 := ⟨by decide +kernel, rfl⟩
theorem d_method_2_3 : Dec method_2_code 3 (.iushr) 1 4 := ⟨by decide +kernel, rfl⟩
theorem d_method_2_4 : Dec method_2_code 4 (.iconst 3) 1 5 := ⟨by decide +kernel, rfl⟩
theorem d_method_2_5 : Dec method_2_code 5 (.iand) 1 6 := ⟨by decide +kernel, rfl⟩
theorem d_method_2_6 : Dec method_2_code 6 (.istore_n 1) 1 7 := ⟨by decide +kernel, rfl⟩
theorem d_method_2_7 : Dec method_2_code 7 (.iload_n 1) 1 8 := ⟨by decide +kernel, rfl⟩
theorem d_method_2_8 : Dec method_2_code 8 (.ifCond .ne 6) 3 11 := ⟨by decide +kernel, rfl⟩
theorem d_method_2_14 : Dec method_2_code 14 (.iload_n 1) 1 15 := ⟨by decide +kernel, rfl⟩
theorem d_method_2_15 : Dec method_2_code 15 (.iconst 1) 1 16 := ⟨by decide +kernel, rfl⟩
theorem d_method_2_16 : Dec method_2_code 16 (.if_icmp .ne 6) 3 19 := ⟨by decide +kernel, rfl⟩
theorem d_method_2_22 : Dec method_2_code 22 (.iload_n 0) 1 23 := ⟨by decide +kernel, rfl⟩
theorem d_method_2_23 : Dec method_2_code 23 (.sipush 255) 3 26 := ⟨by decide +kernel, rfl⟩
theorem d_method_2_26 : Dec method_2_code 26 (.iand) 1 27 := ⟨by decide +kernel, rfl⟩
theorem d_method_2_27 : Dec method_2_code 27 (.i2c) 1 28 := ⟨by decide +kernel, rfl⟩
theorem d_method_2_28 : Dec method_2_code 28 (.ireturn) 1 29 := ⟨by decide +kernel, rfl⟩
theorem d_method_2_19 : Dec method_2_code 19 (.bipush 34) 2 21 := ⟨by decide +kernel, rfl⟩
theorem d_method_2_21 : Dec method_2_code 21 (.ireturn) 1 22 := ⟨by decide +kernel, rfl⟩
theorem d_method_2_11 : Dec method_2_code 11 (.bipush 92) 2 13 := ⟨by decide +kernel, rfl⟩
theorem d_method_2_13 : Dec method_2_code 13 (.ireturn) 1 14 := ⟨by decide +kernel, rfl⟩
set_option maxRecDepth 65536 in
set_option maxHeartbeats 40000000 in
theorem c_ch (l : Launch) (Z : State) (a0 : Array Value) (hw : ∀ d ∈ tables_1, d.before a0 Z = true) (hE : EW Z a0 EL0) {n0 : Nat} {h0 : Heap} (hO : Old Z n0 h0) (k : Int32) :
    Ctr NW EL0 n0 Z [] l (⟨"com/example/wheal/wheal/ParameterUnquotedPinLaw", "ch", "(I)C"⟩ : MethodName) method_2_code 2 (some .char) ({ frames := 0, cells := 0, slots := 0, locals := 0 } : Room) #[.int k] h0 (RV fun w h => ∃ v : Int32, w = .int v ∧ (¬ v < 0 ∧ ¬ (255 : Int32) < v) ∧ h0 = h) := by
  refine Ctr.body (plainFor_of_name pn_6) hE hO (fun x q => nomatch q) (L0 := #[.val (.int k), .unset]) (fun m => by first | (simp [entryFrame, mkF, argsToLocals, Value.category, maxLocals]; done) | rfl) ?_
  intro p e s m below meth c T0 W0
  refine Go.iload_n W0.cx d_method_2_0 (v := k) rfl ?_
  refine Go.bipush W0.cx d_method_2_1 (z := (8 : Int32)) rfl ?_
  refine Go.iushr W0.cx d_method_2_3 ?_
  refine Go.iconst W0.cx d_method_2_4 (z := (3 : Int32)) rfl ?_
  refine Go.iand W0.cx d_method_2_5 ?_
  refine Go.istore_n W0.cx d_method_2_6 (L' := #[.val (.int k), .val (.int ((ush k (8 : Int32)) &&& (3 : Int32)))]) rfl ?_
  refine Go.iload_n W0.cx d_method_2_7 (v := ((ush k (8 : Int32)) &&& (3 : Int32))) rfl ?_
  refine Go.ifne W0.cx d_method_2_8 (by decide) (q := 14) rfl (fun c1 => ?_) (fun c1 => ?_)
  · refine Go.iload_n W0.cx d_method_2_14 (v := ((ush k (8 : Int32)) &&& (3 : Int32))) rfl ?_
    refine Go.iconst W0.cx d_method_2_15 (z := (1 : Int32)) rfl ?_
    refine Go.icne W0.cx d_method_2_16 (by decide) (q := 22) rfl (fun c2 => ?_) (fun c2 => ?_)
    · refine Go.iload_n W0.cx d_method_2_22 (v := k) rfl ?_
      refine Go.sipush W0.cx d_method_2_23 (z := (255 : Int32)) rfl ?_
      refine Go.iand W0.cx d_method_2_26 ?_
      refine Go.i2c W0.cx d_method_2_27 ?_
      refine Go.top (show _ = (k &&& (255 : Int32)) from i2c_mask _) ?_
      exact Go.iret W0 d_method_2_28 (by simp) (narrow_ch (b255 _)) (by decide) (by decide) ⟨_, rfl, _, rfl, b255 _, rfl⟩
    · refine Go.bipush W0.cx d_method_2_19 (z := (34 : Int32)) rfl ?_
      exact Go.iret W0 d_method_2_21 (by simp) rfl (by decide) (by decide) ⟨_, rfl, _, rfl, by decide, rfl⟩
  · refine Go.bipush W0.cx d_method_2_11 (z := (92 : Int32)) rfl ?_
    exact Go.iret W0 d_method_2_13 (by simp) rfl (by decide) (by decide) ⟨_, rfl, _, rfl, by decide, rfl⟩
theorem d_method_3_0 : Dec method_3_code 0 (.iload_n 0) 1 1 := ⟨by decide +kernel, rfl⟩
theorem d_method_3_1 : Dec method_3_code 1 (.ifCond .gt 14) 3 4 := ⟨by decide +kernel, rfl⟩
theorem d_method_3_4 : Dec method_3_code 4 (.new 7) 3 7 := ⟨by decide +kernel, rfl⟩
theorem d_method_3_7 : Dec method_3_code 7 (.dup) 1 8 := ⟨by decide +kernel, rfl⟩
theorem d_method_3_8 : Dec method_3_code 8 (.iconst 0) 1 9 := ⟨by decide +kernel, rfl⟩
theorem d_method_3_9 : Dec method_3_code 9 (.newarray .char) 2 11 := ⟨by decide +kernel, rfl⟩
theorem d_method_3_11 : Dec method_3_code 11 (.invokespecial 9) 3 14 := ⟨by decide +kernel, rfl⟩
theorem pd_15 : parseMethodDescriptor "([C)V" = some ⟨[(.array .char)], none⟩ := by decide +kernel
theorem d_method_3_14 : Dec method_3_code 14 (.areturn) 1 15 := ⟨by decide +kernel, rfl⟩
set_option maxRecDepth 65536 in
set_option maxHeartbeats 40000000 in
theorem c_str0 (l : Launch) (Z : State) (a0 : Array Value) (hw : ∀ d ∈ tables_1, d.before a0 Z = true) (hE : EW Z a0 EL0) {n0 : Nat} {h0 : Heap} (hO : Old Z n0 h0) (hG : Gl Z) {c0 c1 c2 c3 c4 : Int32}  :
    Ctr NW EL0 n0 Z [] l (⟨"com/example/wheal/wheal/ParameterUnquotedPinLaw", "str", "(ICCCCC)Ljava/lang/String;"⟩ : MethodName) method_3_code 6 (some (.object "java/lang/String")) ({ frames := 4, cells := 6, slots := 14, locals := 66 } : Room) #[.int (Int32.ofNat 0), .int c0, .int c1, .int c2, .int c3, .int c4] h0 (RV fun w h => ∃ r, w = .ref r ∧ Ext h0 h ∧ Str Z h r ([] : List Int32)) := by
  refine Ctr.body (plainFor_of_name pn_6) hE hO (fun x q => nomatch q) (L0 := #[.val (.int (Int32.ofNat 0)), .val (.int c0), .val (.int c1), .val (.int c2), .val (.int c3), .val (.int c4)]) (fun m => by first | (simp [entryFrame, mkF, argsToLocals, Value.category, maxLocals]; done) | rfl) ?_
  intro p e s m below meth c T0 W0
  refine Go.iload_n W0.cx d_method_3_0 (v := (Int32.ofNat 0)) rfl ?_
  refine Go.ifgt W0.cx d_method_3_1 (by decide) (q := 15) rfl (fun hh => (by first | exact absurd (by decide : ¬ (0 : Int32) < Int32.ofNat 0) hh | exact absurd hh (by decide : ¬ (0 : Int32) < Int32.ofNat 0))) (fun _ => ?_)
  refine Go.new W0 d_method_3_4 (wd hw 7 rfl) (wd hw 8 rfl) (wd hw 9 rfl) (cells' := 1) (slots' := 4) rfl rfl (by decide) (by decide) ?_
  intro T1 h1 a1 g1 W1 E1 A1 D1
  have N1 : NewS Z h1 a1 := ⟨A1, D1 (Or.inr (wd hw 23 rfl)) (t := .array .byte) (by decide), D1 (Or.inr (wd hw 24 rfl)) (t := .byte) (by decide)⟩
  refine Go.dup W1.cx d_method_3_7 rfl ?_
  refine Go.iconst W1.cx d_method_3_8 (z := (0 : Int32)) rfl ?_
  refine Go.newarr W1 d_method_3_9 (wd hw 10 rfl) (z := (0 : Int32)) (cap := 0) (by decide) (by decide) (by decide) (cells' := 2) (slots' := 4) rfl rfl (by decide) (by decide) ?_
  intro T2 h2 a2 ka2 g2 W2 E2 A2
  have V2 : CArr Z h2 a2 ka2 [] := CArr.of_new A2 (k := 0) rfl rfl
  have X2 : Ext h0 h2 := ext_trans E1 E2
  have N2 := N1.ext E2
  refine Go.invi W2 (Ctr.call (wt := 1) (c_s3 l Z a0 hw hE W2.old (W2.mine (by simp)).1 N2 V2) W2.ew (wd hw 13 rfl) (wd hw 9 rfl) (by simp) (by decide) (by decide)) d_method_3_11 rfl (wd hw 11 rfl) (wd hw 12 rfl) (wd hw 13 rfl) (by decide) pd_15 rfl rfl (rest := [(.ref a1)]) rfl (Nat.le_of_eq rfl) (cells' := 6) (slots' := 12) rfl rfl (by decide) (by decide) ?_
  rintro T3 h3 W3 z3 ⟨K3, S3⟩
  have X3 : Ext h0 h3 := ext_keep X2 K3 (all1 (Nat.le_of_eq g1.symm))
  exact Go.aret W3 d_method_3_14 rfl rfl rfl (by decide) (by decide) ⟨_, rfl, a1, rfl, X3, S3⟩
theorem d_method_3_15 : Dec method_3_code 15 (.iload_n 0) 1 16 := ⟨by decide +kernel, rfl⟩
theorem d_method_3_16 : Dec method_3_code 16 (.iconst 1) 1 17 := ⟨by decide +kernel, rfl⟩
theorem d_method_3_17 : Dec method_3_code 17 (.if_icmp .ne 18) 3 20 := ⟨by decide +kernel, rfl⟩
theorem d_method_3_20 : Dec method_3_code 20 (.new 7) 3 23 := ⟨by decide +kernel, rfl⟩
theorem d_method_3_23 : Dec method_3_code 23 (.dup) 1 24 := ⟨by decide +kernel, rfl⟩
theorem d_method_3_24 : Dec method_3_code 24 (.iconst 1) 1 25 := ⟨by decide +kernel, rfl⟩
theorem d_method_3_25 : Dec method_3_code 25 (.newarray .char) 2 27 := ⟨by decide +kernel, rfl⟩
theorem d_method_3_27 : Dec method_3_code 27 (.dup) 1 28 := ⟨by decide +kernel, rfl⟩
theorem d_method_3_28 : Dec method_3_code 28 (.iconst 0) 1 29 := ⟨by decide +kernel, rfl⟩
theorem d_method_3_29 : Dec method_3_code 29 (.iload_n 1) 1 30 := ⟨by decide +kernel, rfl⟩
theorem d_method_3_30 : Dec method_3_code 30 (.castore) 1 31 := ⟨by decide +kernel, rfl⟩
theorem d_method_3_31 : Dec method_3_code 31 (.invokespecial 9) 3 34 := ⟨by decide +kernel, rfl⟩
theorem d_method_3_34 : Dec method_3_code 34 (.areturn) 1 35 := ⟨by decide +kernel, rfl⟩
set_option maxRecDepth 65536 in
set_option maxHeartbeats 40000000 in
theorem c_str1 (l : Launch) (Z : State) (a0 : Array Value) (hw : ∀ d ∈ tables_1, d.before a0 Z = true) (hE : EW Z a0 EL0) {n0 : Nat} {h0 : Heap} (hO : Old Z n0 h0) (hG : Gl Z) {c0 c1 c2 c3 c4 : Int32} (q0 : ¬ c0 < 0 ∧ ¬ (255 : Int32) < c0) :
    Ctr NW EL0 n0 Z [] l (⟨"com/example/wheal/wheal/ParameterUnquotedPinLaw", "str", "(ICCCCC)Ljava/lang/String;"⟩ : MethodName) method_3_code 6 (some (.object "java/lang/String")) ({ frames := 4, cells := 6, slots := 14, locals := 66 } : Room) #[.int (Int32.ofNat 1), .int c0, .int c1, .int c2, .int c3, .int c4] h0 (RV fun w h => ∃ r, w = .ref r ∧ Ext h0 h ∧ Str Z h r ([c0] : List Int32)) := by
  refine Ctr.body (plainFor_of_name pn_6) hE hO (fun x q => nomatch q) (L0 := #[.val (.int (Int32.ofNat 1)), .val (.int c0), .val (.int c1), .val (.int c2), .val (.int c3), .val (.int c4)]) (fun m => by first | (simp [entryFrame, mkF, argsToLocals, Value.category, maxLocals]; done) | rfl) ?_
  intro p e s m below meth c T0 W0
  refine Go.iload_n W0.cx d_method_3_0 (v := (Int32.ofNat 1)) rfl ?_
  refine Go.ifgt W0.cx d_method_3_1 (by decide) (q := 15) rfl (fun _ => ?_) (fun hh => (by first | exact absurd (by decide : (0 : Int32) < Int32.ofNat 1) hh | exact absurd hh (by decide : (0 : Int32) < Int32.ofNat 1)))
  refine Go.iload_n W0.cx d_method_3_15 (v := (Int32.ofNat 1)) rfl ?_
  refine Go.iconst W0.cx d_method_3_16 (z := (1 : Int32)) rfl ?_
  refine Go.icne W0.cx d_method_3_17 (by decide) (q := 35) rfl (fun hh => (by first | exact absurd (by decide : Int32.ofNat 1 = 1) hh | exact absurd hh (by decide : Int32.ofNat 1 = 1))) (fun _ => ?_)
  refine Go.new W0 d_method_3_20 (wd hw 7 rfl) (wd hw 8 rfl) (wd hw 9 rfl) (cells' := 1) (slots' := 4) rfl rfl (by decide) (by decide) ?_
  intro T1 h1 a1 g1 W1 E1 A1 D1
  have N1 : NewS Z h1 a1 := ⟨A1, D1 (Or.inr (wd hw 23 rfl)) (t := .array .byte) (by decide), D1 (Or.inr (wd hw 24 rfl)) (t := .byte) (by decide)⟩
  refine Go.dup W1.cx d_method_3_23 rfl ?_
  refine Go.iconst W1.cx d_method_3_24 (z := (1 : Int32)) rfl ?_
  refine Go.newarr W1 d_method_3_25 (wd hw 10 rfl) (z := (1 : Int32)) (cap := 1) (by decide) (by decide) (by decide) (cells' := 2) (slots' := 5) rfl rfl (by decide) (by decide) ?_
  intro T2 h2 a2 ka2 g2 W2 E2 A2
  have V2 : CArr Z h2 a2 ka2 [0] := CArr.of_new A2 (k := 1) rfl rfl
  have X2 : Ext h0 h2 := ext_trans E1 E2
  have N2 := N1.ext E2
  refine Go.dup W2.cx d_method_3_27 rfl ?_
  refine Go.iconst W2.cx d_method_3_28 (z := (0 : Int32)) rfl ?_
  refine Go.iload_n W2.cx d_method_3_29 (v := c0) rfl ?_
  refine Go.castore W2 0 d_method_3_30 V2 (by simp) rfl (Nat.le_of_ble_eq_true rfl) (Nat.le_of_ble_eq_true rfl) (x' := c0) (nar_ch q0) ?_
  intro T3 h3 W3 K3 V3
  have V3 : CArr Z h3 a2 ka2 [c0] := V3
  have N3 := N2.keep K3 (nin1 N1.1.lt g2)
  have X3 : Ext h0 h3 := ext_keep X2 K3 (all1 (by rw [g2]; exact E1.1))
  have hp4 : ∀ c ∈ [c0], ¬ c < 0 ∧ ¬ (255 : Int32) < c := all_cons (q0) (all_nil)
  refine Go.invi W3 (newStr (wt := 1) W3.ew hw hG N3 V3 (W3.mine (by simp)) (by simp) hp4 (Nat.le_of_ble_eq_true rfl) (Nat.le_of_ble_eq_true rfl) (by decide) (by decide)) d_method_3_31 rfl (wd hw 11 rfl) (wd hw 12 rfl) (wd hw 13 rfl) (by decide) pd_15 rfl rfl (rest := [(.ref a1)]) rfl (Nat.le_of_eq rfl) (cells' := 3) (slots' := 6) rfl rfl (by decide) (by decide) ?_
  rintro T5 h5 W5 z5 ⟨K5, S5⟩
  have X5 : Ext h0 h5 := ext_keep X3 K5 (all1 (Nat.le_of_eq g1.symm))
  exact Go.aret W5 d_method_3_34 rfl rfl rfl (by decide) (by decide) ⟨_, rfl, a1, rfl, X5, S5⟩
theorem d_method_3_35 : Dec method_3_code 35 (.iload_n 0) 1 36 := ⟨by decide +kernel, rfl⟩
theorem d_method_3_36 : Dec method_3_code 36 (.iconst 2) 1 37 := ⟨by decide +kernel, rfl⟩
theorem d_method_3_37 : Dec method_3_code 37 (.if_icmp .ne 22) 3 40 := ⟨by decide +kernel, rfl⟩
theorem d_method_3_40 : Dec method_3_code 40 (.new 7) 3 43 := ⟨by decide +kernel, rfl⟩
theorem d_method_3_43 : Dec method_3_code 43 (.dup) 1 44 := ⟨by decide +kernel, rfl⟩
theorem d_method_3_44 : Dec method_3_code 44 (.iconst 2) 1 45 := ⟨by decide +kernel, rfl⟩
theorem d_method_3_45 : Dec method_3_code 45 (.newarray .char) 2 47 := ⟨by decide +kernel, rfl⟩
theorem d_method_3_47 : Dec method_3_code 47 (.dup) 1 48 := ⟨by decide +kernel, rfl⟩
theorem d_method_3_48 : Dec method_3_code 48 (.iconst 0) 1 49 := ⟨by decide +kernel, rfl⟩
theorem d_method_3_49 : Dec method_3_code 49 (.iload_n 1) 1 50 := ⟨by decide +kernel, rfl⟩
theorem d_method_3_50 : Dec method_3_code 50 (.castore) 1 51 := ⟨by decide +kernel, rfl⟩
theorem d_method_3_51 : Dec method_3_code 51 (.dup) 1 52 := ⟨by decide +kernel, rfl⟩
theorem d_method_3_52 : Dec method_3_code 52 (.iconst 1) 1 53 := ⟨by decide +kernel, rfl⟩
theorem d_method_3_53 : Dec method_3_code 53 (.iload_n 2) 1 54 := ⟨by decide +kernel, rfl⟩
theorem d_method_3_54 : Dec method_3_code 54 (.castore) 1 55 := ⟨by decide +kernel, rfl⟩
theorem d_method_3_55 : Dec method_3_code 55 (.invokespecial 9) 3 58 := ⟨by decide +kernel, rfl⟩
theorem d_method_3_58 : Dec method_3_code 58 (.areturn) 1 59 := ⟨by decide +kernel, rfl⟩
set_option maxRecDepth 65536 in
set_option maxHeartbeats 40000000 in
theorem c_str2 (l : Launch) (Z : State) (a0 : Array Value) (hw : ∀ d ∈ tables_1, d.before a0 Z = true) (hE : EW Z a0 EL0) {n0 : Nat} {h0 : Heap} (hO : Old Z n0 h0) (hG : Gl Z) {c0 c1 c2 c3 c4 : Int32} (q0 : ¬ c0 < 0 ∧ ¬ (255 : Int32) < c0) (q1 : ¬ c1 < 0 ∧ ¬ (255 : Int32) < c1) :
    Ctr NW EL0 n0 Z [] l (⟨"com/example/wheal/wheal/ParameterUnquotedPinLaw", "str", "(ICCCCC)Ljava/lang/String;"⟩ : MethodName) method_3_code 6 (some (.object "java/lang/String")) ({ frames := 4, cells := 6, slots := 14, locals := 66 } : Room) #[.int (Int32.ofNat 2), .int c0, .int c1, .int c2, .int c3, .int c4] h0 (RV fun w h => ∃ r, w = .ref r ∧ Ext h0 h ∧ Str Z h r ([c0, c1] : List Int32)) := by
  refine Ctr.body (plainFor_of_name pn_6) hE hO (fun x q => nomatch q) (L0 := #[.val (.int (Int32.ofNat 2)), .val (.int c0), .val (.int c1), .val (.int c2), .val (.int c3), .val (.int c4)]) (fun m => by first | (simp [entryFrame, mkF, argsToLocals, Value.category, maxLocals]; done) | rfl) ?_
  intro p e s m below meth c T0 W0
  refine Go.iload_n W0.cx d_method_3_0 (v := (Int32.ofNat 2)) rfl ?_
  refine Go.ifgt W0.cx d_method_3_1 (by decide) (q := 15) rfl (fun _ => ?_) (fun hh => (by first | exact absurd (by decide : (0 : Int32) < Int32.ofNat 2) hh | exact absurd hh (by decide : (0 : Int32) < Int32.ofNat 2)))
  refine Go.iload_n W0.cx d_method_3_15 (v := (Int32.ofNat 2)) rfl ?_
  refine Go.iconst W0.cx d_method_3_16 (z := (1 : Int32)) rfl ?_
  refine Go.icne W0.cx d_method_3_17 (by decide) (q := 35) rfl (fun _ => ?_) (fun hh => (by first | exact absurd (by decide : ¬ Int32.ofNat 2 = 1) hh | exact absurd hh (by decide : ¬ Int32.ofNat 2 = 1)))
  refine Go.iload_n W0.cx d_method_3_35 (v := (Int32.ofNat 2)) rfl ?_
  refine Go.iconst W0.cx d_method_3_36 (z := (2 : Int32)) rfl ?_
  refine Go.icne W0.cx d_method_3_37 (by decide) (q := 59) rfl (fun hh => (by first | exact absurd (by decide : Int32.ofNat 2 = 2) hh | exact absurd hh (by decide : Int32.ofNat 2 = 2))) (fun _ => ?_)
  refine Go.new W0 d_method_3_40 (wd hw 7 rfl) (wd hw 8 rfl) (wd hw 9 rfl) (cells' := 1) (slots' := 4) rfl rfl (by decide) (by decide) ?_
  intro T1 h1 a1 g1 W1 E1 A1 D1
  have N1 : NewS Z h1 a1 := ⟨A1, D1 (Or.inr (wd hw 23 rfl)) (t := .array .byte) (by decide), D1 (Or.inr (wd hw 24 rfl)) (t := .byte) (by decide)⟩
  refine Go.dup W1.cx d_method_3_43 rfl ?_
  refine Go.iconst W1.cx d_method_3_44 (z := (2 : Int32)) rfl ?_
  refine Go.newarr W1 d_method_3_45 (wd hw 10 rfl) (z := (2 : Int32)) (cap := 2) (by decide) (by decide) (by decide) (cells' := 2) (slots' := 6) rfl rfl (by decide) (by decide) ?_
  intro T2 h2 a2 ka2 g2 W2 E2 A2
  have V2 : CArr Z h2 a2 ka2 [0, 0] := CArr.of_new A2 (k := 2) rfl rfl
  have X2 : Ext h0 h2 := ext_trans E1 E2
  have N2 := N1.ext E2
  refine Go.dup W2.cx d_method_3_47 rfl ?_
  refine Go.iconst W2.cx d_method_3_48 (z := (0 : Int32)) rfl ?_
  refine Go.iload_n W2.cx d_method_3_49 (v := c0) rfl ?_
  refine Go.castore W2 0 d_method_3_50 V2 (by simp) rfl (Nat.le_of_ble_eq_true rfl) (Nat.le_of_ble_eq_true rfl) (x' := c0) (nar_ch q0) ?_
  intro T3 h3 W3 K3 V3
  have V3 : CArr Z h3 a2 ka2 [c0, 0] := V3
  have N3 := N2.keep K3 (nin1 N1.1.lt g2)
  have X3 : Ext h0 h3 := ext_keep X2 K3 (all1 (by rw [g2]; exact E1.1))
  refine Go.dup W3.cx d_method_3_51 rfl ?_
  refine Go.iconst W3.cx d_method_3_52 (z := (1 : Int32)) rfl ?_
  refine Go.iload_n W3.cx d_method_3_53 (v := c1) rfl ?_
  refine Go.castore W3 1 d_method_3_54 V3 (by simp) rfl (Nat.le_of_ble_eq_true rfl) (Nat.le_of_ble_eq_true rfl) (x' := c1) (nar_ch q1) ?_
  intro T4 h4 W4 K4 V4
  have V4 : CArr Z h4 a2 ka2 [c0, c1] := V4
  have N4 := N3.keep K4 (nin1 N1.1.lt g2)
  have X4 : Ext h0 h4 := ext_keep X3 K4 (all1 (by rw [g2]; exact E1.1))
  have hp5 : ∀ c ∈ [c0, c1], ¬ c < 0 ∧ ¬ (255 : Int32) < c := all_cons (q0) (all_cons (q1) (all_nil))
  refine Go.invi W4 (newStr (wt := 1) W4.ew hw hG N4 V4 (W4.mine (by simp)) (by simp) hp5 (Nat.le_of_ble_eq_true rfl) (Nat.le_of_ble_eq_true rfl) (by decide) (by decide)) d_method_3_55 rfl (wd hw 11 rfl) (wd hw 12 rfl) (wd hw 13 rfl) (by decide) pd_15 rfl rfl (rest := [(.ref a1)]) rfl (Nat.le_of_eq rfl) (cells' := 3) (slots' := 8) rfl rfl (by decide) (by decide) ?_
  rintro T6 h6 W6 z6 ⟨K6, S6⟩
  have X6 : Ext h0 h6 := ext_keep X4 K6 (all1 (Nat.le_of_eq g1.symm))
  exact Go.aret W6 d_method_3_58 rfl rfl rfl (by decide) (by decide) ⟨_, rfl, a1, rfl, X6, S6⟩
theorem d_method_3_59 : Dec method_3_code 59 (.iload_n 0) 1 60 := ⟨by decide +kernel, rfl⟩
theorem d_method_3_60 : Dec method_3_code 60 (.iconst 3) 1 61 := ⟨by decide +kernel, rfl⟩
theorem d_method_3_61 : Dec method_3_code 61 (.if_icmp .ne 26) 3 64 := ⟨by decide +kernel, rfl⟩
theorem d_method_3_64 : Dec method_3_code 64 (.new 7) 3 67 := ⟨by decide +kernel, rfl⟩
theorem d_method_3_67 : Dec method_3_code 67 (.dup) 1 68 := ⟨by decide +kernel, rfl⟩
theorem d_method_3_68 : Dec method_3_code 68 (.iconst 3) 1 69 := ⟨by decide +kernel, rfl⟩
theorem d_method_3_69 : Dec method_3_code 69 (.newarray .char) 2 71 := ⟨by decide +kernel, rfl⟩
theorem d_method_3_71 : Dec method_3_code 71 (.dup) 1 72 := ⟨by decide +kernel, rfl⟩
theorem d_method_3_72 : Dec method_3_code 72 (.iconst 0) 1 73 := ⟨by decide +kernel, rfl⟩
theorem d_method_3_73 : Dec method_3_code 73 (.iload_n 1) 1 74 := ⟨by decide +kernel, rfl⟩
theorem d_method_3_74 : Dec method_3_code 74 (.castore) 1 75 := ⟨by decide +kernel, rfl⟩
theorem d_method_3_75 : Dec method_3_code 75 (.dup) 1 76 := ⟨by decide +kernel, rfl⟩
theorem d_method_3_76 : Dec method_3_code 76 (.iconst 1) 1 77 := ⟨by decide +kernel, rfl⟩
theorem d_method_3_77 : Dec method_3_code 77 (.iload_n 2) 1 78 := ⟨by decide +kernel, rfl⟩
theorem d_method_3_78 : Dec method_3_code 78 (.castore) 1 79 := ⟨by decide +kernel, rfl⟩
theorem d_method_3_79 : Dec method_3_code 79 (.dup) 1 80 := ⟨by decide +kernel, rfl⟩
theorem d_method_3_80 : Dec method_3_code 80 (.iconst 2) 1 81 := ⟨by decide +kernel, rfl⟩
theorem d_method_3_81 : Dec method_3_code 81 (.iload_n 3) 1 82 := ⟨by decide +kernel, rfl⟩
theorem d_method_3_82 : Dec method_3_code 82 (.castore) 1 83 := ⟨by decide +kernel, rfl⟩
theorem d_method_3_83 : Dec method_3_code 83 (.invokespecial 9) 3 86 := ⟨by decide +kernel, rfl⟩
theorem d_method_3_86 : Dec method_3_code 86 (.areturn) 1 87 := ⟨by decide +kernel, rfl⟩
set_option maxRecDepth 65536 in
set_option maxHeartbeats 40000000 in
theorem c_str3 (l : Launch) (Z : State) (a0 : Array Value) (hw : ∀ d ∈ tables_1, d.before a0 Z = true) (hE : EW Z a0 EL0) {n0 : Nat} {h0 : Heap} (hO : Old Z n0 h0) (hG : Gl Z) {c0 c1 c2 c3 c4 : Int32} (q0 : ¬ c0 < 0 ∧ ¬ (255 : Int32) < c0) (q1 : ¬ c1 < 0 ∧ ¬ (255 : Int32) < c1) (q2 : ¬ c2 < 0 ∧ ¬ (255 : Int32) < c2) :
    Ctr NW EL0 n0 Z [] l (⟨"com/example/wheal/wheal/ParameterUnquotedPinLaw", "str", "(ICCCCC)Ljava/lang/String;"⟩ : MethodName) method_3_code 6 (some (.object "java/lang/String")) ({ frames := 4, cells := 6, slots := 14, locals := 66 } : Room) #[.int (Int32.ofNat 3), .int c0, .int c1, .int c2, .int c3, .int c4] h0 (RV fun w h => ∃ r, w = .ref r ∧ Ext h0 h ∧ Str Z h r ([c0, c1, c2] : List Int32)) := by
  refine Ctr.body (plainFor_of_name pn_6) hE hO (fun x q => nomatch q) (L0 := #[.val (.int (Int32.ofNat 3)), .val (.int c0), .val (.int c1), .val (.int c2), .val (.int c3), .val (.int c4)]) (fun m => by first | (simp [entryFrame, mkF, argsToLocals, Value.category, maxLocals]; done) | rfl) ?_
  intro p e s m below meth c T0 W0
  refine Go.iload_n W0.cx d_method_3_0 (v := (Int32.ofNat 3)) rfl ?_
  refine Go.ifgt W0.cx d_method_3_1 (by decide) (q := 15) rfl (fun _ => ?_) (fun hh => (by first | exact absurd (by decide : (0 : Int32) < Int32.ofNat 3) hh | exact absurd hh (by decide : (0 : Int32) < Int32.ofNat 3)))
  refine Go.iload_n W0.cx d_method_3_15 (v := (Int32.ofNat 3)) rfl ?_
  refine Go.iconst W0.cx d_method_3_16 (z := (1 : Int32)) rfl ?_
  refine Go.icne W0.cx d_method_3_17 (by decide) (q := 35) rfl (fun _ => ?_) (fun hh => (by first | exact absurd (by decide : ¬ Int32.ofNat 3 = 1) hh | exact absurd hh (by decide : ¬ Int32.ofNat 3 = 1)))
  refine Go.iload_n W0.cx d_method_3_35 (v := (Int32.ofNat 3)) rfl ?_
  refine Go.iconst W0.cx d_method_3_36 (z := (2 : Int32)) rfl ?_
  refine Go.icne W0.cx d_method_3_37 (by decide) (q := 59) rfl (fun _ => ?_) (fun hh => (by first | exact absurd (by decide : ¬ Int32.ofNat 3 = 2) hh | exact absurd hh (by decide : ¬ Int32.ofNat 3 = 2)))
  refine Go.iload_n W0.cx d_method_3_59 (v := (Int32.ofNat 3)) rfl ?_
  refine Go.iconst W0.cx d_method_3_60 (z := (3 : Int32)) rfl ?_
  refine Go.icne W0.cx d_method_3_61 (by decide) (q := 87) rfl (fun hh => (by first | exact absurd (by decide : Int32.ofNat 3 = 3) hh | exact absurd hh (by decide : Int32.ofNat 3 = 3))) (fun _ => ?_)
  refine Go.new W0 d_method_3_64 (wd hw 7 rfl) (wd hw 8 rfl) (wd hw 9 rfl) (cells' := 1) (slots' := 4) rfl rfl (by decide) (by decide) ?_
  intro T1 h1 a1 g1 W1 E1 A1 D1
  have N1 : NewS Z h1 a1 := ⟨A1, D1 (Or.inr (wd hw 23 rfl)) (t := .array .byte) (by decide), D1 (Or.inr (wd hw 24 rfl)) (t := .byte) (by decide)⟩
  refine Go.dup W1.cx d_method_3_67 rfl ?_
  refine Go.iconst W1.cx d_method_3_68 (z := (3 : Int32)) rfl ?_
  refine Go.newarr W1 d_method_3_69 (wd hw 10 rfl) (z := (3 : Int32)) (cap := 3) (by decide) (by decide) (by decide) (cells' := 2) (slots' := 7) rfl rfl (by decide) (by decide) ?_
  intro T2 h2 a2 ka2 g2 W2 E2 A2
  have V2 : CArr Z h2 a2 ka2 [0, 0, 0] := CArr.of_new A2 (k := 3) rfl rfl
  have X2 : Ext h0 h2 := ext_trans E1 E2
  have N2 := N1.ext E2
  refine Go.dup W2.cx d_method_3_71 rfl ?_
  refine Go.iconst W2.cx d_method_3_72 (z := (0 : Int32)) rfl ?_
  refine Go.iload_n W2.cx d_method_3_73 (v := c0) rfl ?_
  refine Go.castore W2 0 d_method_3_74 V2 (by simp) rfl (Nat.le_of_ble_eq_true rfl) (Nat.le_of_ble_eq_true rfl) (x' := c0) (nar_ch q0) ?_
  intro T3 h3 W3 K3 V3
  have V3 : CArr Z h3 a2 ka2 [c0, 0, 0] := V3
  have N3 := N2.keep K3 (nin1 N1.1.lt g2)
  have X3 : Ext h0 h3 := ext_keep X2 K3 (all1 (by rw [g2]; exact E1.1))
  refine Go.dup W3.cx d_method_3_75 rfl ?_
  refine Go.iconst W3.cx d_method_3_76 (z := (1 : Int32)) rfl ?_
  refine Go.iload_n W3.cx d_method_3_77 (v := c1) rfl ?_
  refine Go.castore W3 1 d_method_3_78 V3 (by simp) rfl (Nat.le_of_ble_eq_true rfl) (Nat.le_of_ble_eq_true rfl) (x' := c1) (nar_ch q1) ?_
  intro T4 h4 W4 K4 V4
  have V4 : CArr Z h4 a2 ka2 [c0, c1, 0] := V4
  have N4 := N3.keep K4 (nin1 N1.1.lt g2)
  have X4 : Ext h0 h4 := ext_keep X3 K4 (all1 (by rw [g2]; exact E1.1))
  refine Go.dup W4.cx d_method_3_79 rfl ?_
  refine Go.iconst W4.cx d_method_3_80 (z := (2 : Int32)) rfl ?_
  refine Go.iload_n W4.cx d_method_3_81 (v := c2) rfl ?_
  refine Go.castore W4 2 d_method_3_82 V4 (by simp) rfl (Nat.le_of_ble_eq_true rfl) (Nat.le_of_ble_eq_true rfl) (x' := c2) (nar_ch q2) ?_
  intro T5 h5 W5 K5 V5
  have V5 : CArr Z h5 a2 ka2 [c0, c1, c2] := V5
  have N5 := N4.keep K5 (nin1 N1.1.lt g2)
  have X5 : Ext h0 h5 := ext_keep X4 K5 (all1 (by rw [g2]; exact E1.1))
  have hp6 : ∀ c ∈ [c0, c1, c2], ¬ c < 0 ∧ ¬ (255 : Int32) < c := all_cons (q0) (all_cons (q1) (all_cons (q2) (all_nil)))
  refine Go.invi W5 (newStr (wt := 1) W5.ew hw hG N5 V5 (W5.mine (by simp)) (by simp) hp6 (Nat.le_of_ble_eq_true rfl) (Nat.le_of_ble_eq_true rfl) (by decide) (by decide)) d_method_3_83 rfl (wd hw 11 rfl) (wd hw 12 rfl) (wd hw 13 rfl) (by decide) pd_15 rfl rfl (rest := [(.ref a1)]) rfl (Nat.le_of_eq rfl) (cells' := 3) (slots' := 10) rfl rfl (by decide) (by decide) ?_
  rintro T7 h7 W7 z7 ⟨K7, S7⟩
  have X7 : Ext h0 h7 := ext_keep X5 K7 (all1 (Nat.le_of_eq g1.symm))
  exact Go.aret W7 d_method_3_86 rfl rfl rfl (by decide) (by decide) ⟨_, rfl, a1, rfl, X7, S7⟩
theorem d_method_3_87 : Dec method_3_code 87 (.iload_n 0) 1 88 := ⟨by decide +kernel, rfl⟩
theorem d_method_3_88 : Dec method_3_code 88 (.iconst 4) 1 89 := ⟨by decide +kernel, rfl⟩
theorem d_method_3_89 : Dec method_3_code 89 (.if_icmp .ne 31) 3 92 := ⟨by decide +kernel, rfl⟩
theorem d_method_3_92 : Dec method_3_code 92 (.new 7) 3 95 := ⟨by decide +kernel, rfl⟩
theorem d_method_3_95 : Dec method_3_code 95 (.dup) 1 96 := ⟨by decide +kernel, rfl⟩
theorem d_method_3_96 : Dec method_3_code 96 (.iconst 4) 1 97 := ⟨by decide +kernel, rfl⟩
theorem d_method_3_97 : Dec method_3_code 97 (.newarray .char) 2 99 := ⟨by decide +kernel, rfl⟩
theorem d_method_3_99 : Dec method_3_code 99 (.dup) 1 100 := ⟨by decide +kernel, rfl⟩
theorem d_method_3_100 : Dec method_3_code 100 (.iconst 0) 1 101 := ⟨by decide +kernel, rfl⟩
theorem d_method_3_101 : Dec method_3_code 101 (.iload_n 1) 1 102 := ⟨by decide +kernel, rfl⟩
theorem d_method_3_102 : Dec method_3_code 102 (.castore) 1 103 := ⟨by decide +kernel, rfl⟩
theorem d_method_3_103 : Dec method_3_code 103 (.dup) 1 104 := ⟨by decide +kernel, rfl⟩
theorem d_method_3_104 : Dec method_3_code 104 (.iconst 1) 1 105 := ⟨by decide +kernel, rfl⟩
theorem d_method_3_105 : Dec method_3_code 105 (.iload_n 2) 1 106 := ⟨by decide +kernel, rfl⟩
theorem d_method_3_106 : Dec method_3_code 106 (.castore) 1 107 := ⟨by decide +kernel, rfl⟩
theorem d_method_3_107 : Dec method_3_code 107 (.dup) 1 108 := ⟨by decide +kernel, rfl⟩
theorem d_method_3_108 : Dec method_3_code 108 (.iconst 2) 1 109 := ⟨by decide +kernel, rfl⟩
theorem d_method_3_109 : Dec method_3_code 109 (.iload_n 3) 1 110 := ⟨by decide +kernel, rfl⟩
theorem d_method_3_110 : Dec method_3_code 110 (.castore) 1 111 := ⟨by decide +kernel, rfl⟩
theorem d_method_3_111 : Dec method_3_code 111 (.dup) 1 112 := ⟨by decide +kernel, rfl⟩
theorem d_method_3_112 : Dec method_3_code 112 (.iconst 3) 1 113 := ⟨by decide +kernel, rfl⟩
theorem d_method_3_113 : Dec method_3_code 113 (.iload 4) 2 115 := ⟨by decide +kernel, rfl⟩
theorem d_method_3_115 : Dec method_3_code 115 (.castore) 1 116 := ⟨by decide +kernel, rfl⟩
theorem d_method_3_116 : Dec method_3_code 116 (.invokespecial 9) 3 119 := ⟨by decide +kernel, rfl⟩
theorem d_method_3_119 : Dec method_3_code 119 (.areturn) 1 120 := ⟨by decide +kernel, rfl⟩
set_option maxRecDepth 65536 in
set_option maxHeartbeats 40000000 in
theorem c_str4 (l : Launch) (Z : State) (a0 : Array Value) (hw : ∀ d ∈ tables_1, d.before a0 Z = true) (hE : EW Z a0 EL0) {n0 : Nat} {h0 : Heap} (hO : Old Z n0 h0) (hG : Gl Z) {c0 c1 c2 c3 c4 : Int32} (q0 : ¬ c0 < 0 ∧ ¬ (255 : Int32) < c0) (q1 : ¬ c1 < 0 ∧ ¬ (255 : Int32) < c1) (q2 : ¬ c2 < 0 ∧ ¬ (255 : Int32) < c2) (q3 : ¬ c3 < 0 ∧ ¬ (255 : Int32) < c3) :
    Ctr NW EL0 n0 Z [] l (⟨"com/example/wheal/wheal/ParameterUnquotedPinLaw", "str", "(ICCCCC)Ljava/lang/String;"⟩ : MethodName) method_3_code 6 (some (.object "java/lang/String")) ({ frames := 4, cells := 6, slots := 14, locals := 66 } : Room) #[.int (Int32.ofNat 4), .int c0, .int c1, .int c2, .int c3, .int c4] h0 (RV fun w h => ∃ r, w = .ref r ∧ Ext h0 h ∧ Str Z h r ([c0, c1, c2, c3] : List Int32)) := by
  refine Ctr.body (plainFor_of_name pn_6) hE hO (fun x q => nomatch q) (L0 := #[.val (.int (Int32.ofNat 4)), .val (.int c0), .val (.int c1), .val (.int c2), .val (.int c3), .val (.int c4)]) (fun m => by first | (simp [entryFrame, mkF, argsToLocals, Value.category, maxLocals]; done) | rfl) ?_
  intro p e s m below meth c T0 W0
  refine Go.iload_n W0.cx d_method_3_0 (v := (Int32.ofNat 4)) rfl ?_
  refine Go.ifgt W0.cx d_method_3_1 (by decide) (q := 15) rfl (fun _ => ?_) (fun hh => (by first | exact absurd (by decide : (0 : Int32) < Int32.ofNat 4) hh | exact absurd hh (by decide : (0 : Int32) < Int32.ofNat 4)))
  refine Go.iload_n W0.cx d_method_3_15 (v := (Int32.ofNat 4)) rfl ?_
  refine Go.iconst W0.cx d_method_3_16 (z := (1 : Int32)) rfl ?_
  refine Go.icne W0.cx d_method_3_17 (by decide) (q := 35) rfl (fun _ => ?_) (fun hh => (by first | exact absurd (by decide : ¬ Int32.ofNat 4 = 1) hh | exact absurd hh (by decide : ¬ Int32.ofNat 4 = 1)))
  refine Go.iload_n W0.cx d_method_3_35 (v := (Int32.ofNat 4)) rfl ?_
  refine Go.iconst W0.cx d_method_3_36 (z := (2 : Int32)) rfl ?_
  refine Go.icne W0.cx d_method_3_37 (by decide) (q := 59) rfl (fun _ => ?_) (fun hh => (by first | exact absurd (by decide : ¬ Int32.ofNat 4 = 2) hh | exact absurd hh (by decide : ¬ Int32.ofNat 4 = 2)))
  refine Go.iload_n W0.cx d_method_3_59 (v := (Int32.ofNat 4)) rfl ?_
  refine Go.iconst W0.cx d_method_3_60 (z := (3 : Int32)) rfl ?_
  refine Go.icne W0.cx d_method_3_61 (by decide) (q := 87) rfl (fun _ => ?_) (fun hh => (by first | exact absurd (by decide : ¬ Int32.ofNat 4 = 3) hh | exact absurd hh (by decide : ¬ Int32.ofNat 4 = 3)))
  refine Go.iload_n W0.cx d_method_3_87 (v := (Int32.ofNat 4)) rfl ?_
  refine Go.iconst W0.cx d_method_3_88 (z := (4 : Int32)) rfl ?_
  refine Go.icne W0.cx d_method_3_89 (by decide) (q := 120) rfl (fun hh => (by first | exact absurd (by decide : Int32.ofNat 4 = 4) hh | exact absurd hh (by decide : Int32.ofNat 4 = 4))) (fun _ => ?_)
  refine Go.new W0 d_method_3_92 (wd hw 7 rfl) (wd hw 8 rfl) (wd hw 9 rfl) (cells' := 1) (slots' := 4) rfl rfl (by decide) (by decide) ?_
  intro T1 h1 a1 g1 W1 E1 A1 D1
  have N1 : NewS Z h1 a1 := ⟨A1, D1 (Or.inr (wd hw 23 rfl)) (t := .array .byte) (by decide), D1 (Or.inr (wd hw 24 rfl)) (t := .byte) (by decide)⟩
  refine Go.dup W1.cx d_method_3_95 rfl ?_
  refine Go.iconst W1.cx d_method_3_96 (z := (4 : Int32)) rfl ?_
  refine Go.newarr W1 d_method_3_97 (wd hw 10 rfl) (z := (4 : Int32)) (cap := 4) (by decide) (by decide) (by decide) (cells' := 2) (slots' := 8) rfl rfl (by decide) (by decide) ?_
  intro T2 h2 a2 ka2 g2 W2 E2 A2
  have V2 : CArr Z h2 a2 ka2 [0, 0, 0, 0] := CArr.of_new A2 (k := 4) rfl rfl
  have X2 : Ext h0 h2 := ext_trans E1 E2
  have N2 := N1.ext E2
  refine Go.dup W2.cx d_method_3_99 rfl ?_
  refine Go.iconst W2.cx d_method_3_100 (z := (0 : Int32)) rfl ?_
  refine Go.iload_n W2.cx d_method_3_101 (v := c0) rfl ?_
  refine Go.castore W2 0 d_method_3_102 V2 (by simp) rfl (Nat.le_of_ble_eq_true rfl) (Nat.le_of_ble_eq_true rfl) (x' := c0) (nar_ch q0) ?_
  intro T3 h3 W3 K3 V3
  have V3 : CArr Z h3 a2 ka2 [c0, 0, 0, 0] := V3
  have N3 := N2.keep K3 (nin1 N1.1.lt g2)
  have X3 : Ext h0 h3 := ext_keep X2 K3 (all1 (by rw [g2]; exact E1.1))
  refine Go.dup W3.cx d_method_3_103 rfl ?_
  refine Go.iconst W3.cx d_method_3_104 (z := (1 : Int32)) rfl ?_
  refine Go.iload_n W3.cx d_method_3_105 (v := c1) rfl ?_
  refine Go.castore W3 1 d_method_3_106 V3 (by simp) rfl (Nat.le_of_ble_eq_true rfl) (Nat.le_of_ble_eq_true rfl) (x' := c1) (nar_ch q1) ?_
  intro T4 h4 W4 K4 V4
  have V4 : CArr Z h4 a2 ka2 [c0, c1, 0, 0] := V4
  have N4 := N3.keep K4 (nin1 N1.1.lt g2)
  have X4 : Ext h0 h4 := ext_keep X3 K4 (all1 (by rw [g2]; exact E1.1))
  refine Go.dup W4.cx d_method_3_107 rfl ?_
  refine Go.iconst W4.cx d_method_3_108 (z := (2 : Int32)) rfl ?_
  refine Go.iload_n W4.cx d_method_3_109 (v := c2) rfl ?_
  refine Go.castore W4 2 d_method_3_110 V4 (by simp) rfl (Nat.le_of_ble_eq_true rfl) (Nat.le_of_ble_eq_true rfl) (x' := c2) (nar_ch q2) ?_
  intro T5 h5 W5 K5 V5
  have V5 : CArr Z h5 a2 ka2 [c0, c1, c2, 0] := V5
  have N5 := N4.keep K5 (nin1 N1.1.lt g2)
  have X5 : Ext h0 h5 := ext_keep X4 K5 (all1 (by rw [g2]; exact E1.1))
  refine Go.dup W5.cx d_method_3_111 rfl ?_
  refine Go.iconst W5.cx d_method_3_112 (z := (3 : Int32)) rfl ?_
  refine Go.iload W5.cx d_method_3_113 (v := c3) rfl ?_
  refine Go.castore W5 3 d_method_3_115 V5 (by simp) rfl (Nat.le_of_ble_eq_true rfl) (Nat.le_of_ble_eq_true rfl) (x' := c3) (nar_ch q3) ?_
  intro T6 h6 W6 K6 V6
  have V6 : CArr Z h6 a2 ka2 [c0, c1, c2, c3] := V6
  have N6 := N5.keep K6 (nin1 N1.1.lt g2)
  have X6 : Ext h0 h6 := ext_keep X5 K6 (all1 (by rw [g2]; exact E1.1))
  have hp7 : ∀ c ∈ [c0, c1, c2, c3], ¬ c < 0 ∧ ¬ (255 : Int32) < c := all_cons (q0) (all_cons (q1) (all_cons (q2) (all_cons (q3) (all_nil))))
  refine Go.invi W6 (newStr (wt := 1) W6.ew hw hG N6 V6 (W6.mine (by simp)) (by simp) hp7 (Nat.le_of_ble_eq_true rfl) (Nat.le_of_ble_eq_true rfl) (by decide) (by decide)) d_method_3_116 rfl (wd hw 11 rfl) (wd hw 12 rfl) (wd hw 13 rfl) (by decide) pd_15 rfl rfl (rest := [(.ref a1)]) rfl (Nat.le_of_eq rfl) (cells' := 3) (slots' := 12) rfl rfl (by decide) (by decide) ?_
  rintro T8 h8 W8 z8 ⟨K8, S8⟩
  have X8 : Ext h0 h8 := ext_keep X6 K8 (all1 (Nat.le_of_eq g1.symm))
  exact Go.aret W8 d_method_3_119 rfl rfl rfl (by decide) (by decide) ⟨_, rfl, a1, rfl, X8, S8⟩
theorem d_method_3_120 : Dec method_3_code 120 (.new 7) 3 123 := ⟨by decide +kernel, rfl⟩
theorem d_method_3_123 : Dec method_3_code 123 (.dup) 1 124 := ⟨by decide +kernel, rfl⟩
theorem d_method_3_124 : Dec method_3_code 124 (.iconst 5) 1 125 := ⟨by decide +kernel, rfl⟩
theorem d_method_3_125 : Dec method_3_code 125 (.newarray .char) 2 127 := ⟨by decide +kernel, rfl⟩
theorem d_method_3_127 : Dec method_3_code 127 (.dup) 1 128 := ⟨by decide +kernel, rfl⟩
theorem d_method_3_128 : Dec method_3_code 128 (.iconst 0) 1 129 := ⟨by decide +kernel, rfl⟩
theorem d_method_3_129 : Dec method_3_code 129 (.iload_n 1) 1 130 := ⟨by decide +kernel, rfl⟩
theorem d_method_3_130 : Dec method_3_code 130 (.castore) 1 131 := ⟨by decide +kernel, rfl⟩
theorem d_method_3_131 : Dec method_3_code 131 (.dup) 1 132 := ⟨by decide +kernel, rfl⟩
theorem d_method_3_132 : Dec method_3_code 132 (.iconst 1) 1 133 := ⟨by decide +kernel, rfl⟩
theorem d_method_3_133 : Dec method_3_code 133 (.iload_n 2) 1 134 := ⟨by decide +kernel, rfl⟩
theorem d_method_3_134 : Dec method_3_code 134 (.castore) 1 135 := ⟨by decide +kernel, rfl⟩
theorem d_method_3_135 : Dec method_3_code 135 (.dup) 1 136 := ⟨by decide +kernel, rfl⟩
theorem d_method_3_136 : Dec method_3_code 136 (.iconst 2) 1 137 := ⟨by decide +kernel, rfl⟩
theorem d_method_3_137 : Dec method_3_code 137 (.iload_n 3) 1 138 := ⟨by decide +kernel, rfl⟩
theorem d_method_3_138 : Dec method_3_code 138 (.castore) 1 139 := ⟨by decide +kernel, rfl⟩
theorem d_method_3_139 : Dec method_3_code 139 (.dup) 1 140 := ⟨by decide +kernel, rfl⟩
theorem d_method_3_140 : Dec method_3_code 140 (.iconst 3) 1 141 := ⟨by decide +kernel, rfl⟩
theorem d_method_3_141 : Dec method_3_code 141 (.iload 4) 2 143 := ⟨by decide +kernel, rfl⟩
theorem d_method_3_143 : Dec method_3_code 143 (.castore) 1 144 := ⟨by decide +kernel, rfl⟩
theorem d_method_3_144 : Dec method_3_code 144 (.dup) 1 145 := ⟨by decide +kernel, rfl⟩
theorem d_method_3_145 : Dec method_3_code 145 (.iconst 4) 1 146 := ⟨by decide +kernel, rfl⟩
theorem d_method_3_146 : Dec method_3_code 146 (.iload 5) 2 148 := ⟨by decide +kernel, rfl⟩
theorem d_method_3_148 : Dec method_3_code 148 (.castore) 1 149 := ⟨by decide +kernel, rfl⟩
theorem d_method_3_149 : Dec method_3_code 149 (.invokespecial 9) 3 152 := ⟨by decide +kernel, rfl⟩
theorem d_method_3_152 : Dec method_3_code 152 (.areturn) 1 153 := ⟨by decide +kernel, rfl⟩
set_option maxRecDepth 65536 in
set_option maxHeartbeats 40000000 in
theorem c_str5 (l : Launch) (Z : State) (a0 : Array Value) (hw : ∀ d ∈ tables_1, d.before a0 Z = true) (hE : EW Z a0 EL0) {n0 : Nat} {h0 : Heap} (hO : Old Z n0 h0) (hG : Gl Z) {c0 c1 c2 c3 c4 : Int32} (q0 : ¬ c0 < 0 ∧ ¬ (255 : Int32) < c0) (q1 : ¬ c1 < 0 ∧ ¬ (255 : Int32) < c1) (q2 : ¬ c2 < 0 ∧ ¬ (255 : Int32) < c2) (q3 : ¬ c3 < 0 ∧ ¬ (255 : Int32) < c3) (q4 : ¬ c4 < 0 ∧ ¬ (255 : Int32) < c4) :
    Ctr NW EL0 n0 Z [] l (⟨"com/example/wheal/wheal/ParameterUnquotedPinLaw", "str", "(ICCCCC)Ljava/lang/String;"⟩ : MethodName) method_3_code 6 (some (.object "java/lang/String")) ({ frames := 4, cells := 6, slots := 14, locals := 66 } : Room) #[.int (Int32.ofNat 5), .int c0, .int c1, .int c2, .int c3, .int c4] h0 (RV fun w h => ∃ r, w = .ref r ∧ Ext h0 h ∧ Str Z h r ([c0, c1, c2, c3, c4] : List Int32)) := by
  refine Ctr.body (plainFor_of_name pn_6) hE hO (fun x q => nomatch q) (L0 := #[.val (.int (Int32.ofNat 5)), .val (.int c0), .val (.int c1), .val (.int c2), .val (.int c3), .val (.int c4)]) (fun m => by first | (simp [entryFrame, mkF, argsToLocals, Value.category, maxLocals]; done) | rfl) ?_
  intro p e s m below meth c T0 W0
  refine Go.iload_n W0.cx d_method_3_0 (v := (Int32.ofNat 5)) rfl ?_
  refine Go.ifgt W0.cx d_method_3_1 (by decide) (q := 15) rfl (fun _ => ?_) (fun hh => (by first | exact absurd (by decide : (0 : Int32) < Int32.ofNat 5) hh | exact absurd hh (by decide : (0 : Int32) < Int32.ofNat 5)))
  refine Go.iload_n W0.cx d_method_3_15 (v := (Int32.ofNat 5)) rfl ?_
  refine Go.iconst W0.cx d_method_3_16 (z := (1 : Int32)) rfl ?_
  refine Go.icne W0.cx d_method_3_17 (by decide) (q := 35) rfl (fun _ => ?_) (fun hh => (by first | exact absurd (by decide : ¬ Int32.ofNat 5 = 1) hh | exact absurd hh (by decide : ¬ Int32.ofNat 5 = 1)))
  refine Go.iload_n W0.cx d_method_3_35 (v := (Int32.ofNat 5)) rfl ?_
  refine Go.iconst W0.cx d_method_3_36 (z := (2 : Int32)) rfl ?_
  refine Go.icne W0.cx d_method_3_37 (by decide) (q := 59) rfl (fun _ => ?_) (fun hh => (by first | exact absurd (by decide : ¬ Int32.ofNat 5 = 2) hh | exact absurd hh (by decide : ¬ Int32.ofNat 5 = 2)))
  refine Go.iload_n W0.cx d_method_3_59 (v := (Int32.ofNat 5)) rfl ?_
  refine Go.iconst W0.cx d_method_3_60 (z := (3 : Int32)) rfl ?_
  refine Go.icne W0.cx d_method_3_61 (by decide) (q := 87) rfl (fun _ => ?_) (fun hh => (by first | exact absurd (by decide : ¬ Int32.ofNat 5 = 3) hh | exact absurd hh (by decide : ¬ Int32.ofNat 5 = 3)))
  refine Go.iload_n W0.cx d_method_3_87 (v := (Int32.ofNat 5)) rfl ?_
  refine Go.iconst W0.cx d_method_3_88 (z := (4 : Int32)) rfl ?_
  refine Go.icne W0.cx d_method_3_89 (by decide) (q := 120) rfl (fun _ => ?_) (fun hh => (by first | exact absurd (by decide : ¬ Int32.ofNat 5 = 4) hh | exact absurd hh (by decide : ¬ Int32.ofNat 5 = 4)))
  refine Go.new W0 d_method_3_120 (wd hw 7 rfl) (wd hw 8 rfl) (wd hw 9 rfl) (cells' := 1) (slots' := 4) rfl rfl (by decide) (by decide) ?_
  intro T1 h1 a1 g1 W1 E1 A1 D1
  have N1 : NewS Z h1 a1 := ⟨A1, D1 (Or.inr (wd hw 23 rfl)) (t := .array .byte) (by decide), D1 (Or.inr (wd hw 24 rfl)) (t := .byte) (by decide)⟩
  refine Go.dup W1.cx d_method_3_123 rfl ?_
  refine Go.iconst W1.cx d_method_3_124 (z := (5 : Int32)) rfl ?_
  refine Go.newarr W1 d_method_3_125 (wd hw 10 rfl) (z := (5 : Int32)) (cap := 5) (by decide) (by decide) (by decide) (cells' := 2) (slots' := 9) rfl rfl (by decide) (by decide) ?_
  intro T2 h2 a2 ka2 g2 W2 E2 A2
  have V2 : CArr Z h2 a2 ka2 [0, 0, 0, 0, 0] := CArr.of_new A2 (k := 5) rfl rfl
  have X2 : Ext h0 h2 := ext_trans E1 E2
  have N2 := N1.ext E2
  refine Go.dup W2.cx d_method_3_127 rfl ?_
  refine Go.iconst W2.cx d_method_3_128 (z := (0 : Int32)) rfl ?_
  refine Go.iload_n W2.cx d_method_3_129 (v := c0) rfl ?_
  refine Go.castore W2 0 d_method_3_130 V2 (by simp) rfl (Nat.le_of_ble_eq_true rfl) (Nat.le_of_ble_eq_true rfl) (x' := c0) (nar_ch q0) ?_
  intro T3 h3 W3 K3 V3
  have V3 : CArr Z h3 a2 ka2 [c0, 0, 0, 0, 0] := V3
  have N3 := N2.keep K3 (nin1 N1.1.lt g2)
  have X3 : Ext h0 h3 := ext_keep X2 K3 (all1 (by rw [g2]; exact E1.1))
  refine Go.dup W3.cx d_method_3_131 rfl ?_
  refine Go.iconst W3.cx d_method_3_132 (z := (1 : Int32)) rfl ?_
  refine Go.iload_n W3.cx d_method_3_133 (v := c1) rfl ?_
  refine Go.castore W3 1 d_method_3_134 V3 (by simp) rfl (Nat.le_of_ble_eq_true rfl) (Nat.le_of_ble_eq_true rfl) (x' := c1) (nar_ch q1) ?_
  intro T4 h4 W4 K4 V4
  have V4 : CArr Z h4 a2 ka2 [c0, c1, 0, 0, 0] := V4
  have N4 := N3.keep K4 (nin1 N1.1.lt g2)
  have X4 : Ext h0 h4 := ext_keep X3 K4 (all1 (by rw [g2]; exact E1.1))
  refine Go.dup W4.cx d_method_3_135 rfl ?_
  refine Go.iconst W4.cx d_method_3_136 (z := (2 : Int32)) rfl ?_
  refine Go.iload_n W4.cx d_method_3_137 (v := c2) rfl ?_
  refine Go.castore W4 2 d_method_3_138 V4 (by simp) rfl (Nat.le_of_ble_eq_true rfl) (Nat.le_of_ble_eq_true rfl) (x' := c2) (nar_ch q2) ?_
  intro T5 h5 W5 K5 V5
  have V5 : CArr Z h5 a2 ka2 [c0, c1, c2, 0, 0] := V5
  have N5 := N4.keep K5 (nin1 N1.1.lt g2)
  have X5 : Ext h0 h5 := ext_keep X4 K5 (all1 (by rw [g2]; exact E1.1))
  refine Go.dup W5.cx d_method_3_139 rfl ?_
  refine Go.iconst W5.cx d_method_3_140 (z := (3 : Int32)) rfl ?_
  refine Go.iload W5.cx d_method_3_141 (v := c3) rfl ?_
  refine Go.castore W5 3 d_method_3_143 V5 (by simp) rfl (Nat.le_of_ble_eq_true rfl) (Nat.le_of_ble_eq_true rfl) (x' := c3) (nar_ch q3) ?_
  intro T6 h6 W6 K6 V6
  have V6 : CArr Z h6 a2 ka2 [c0, c1, c2, c3, 0] := V6
  have N6 := N5.keep K6 (nin1 N1.1.lt g2)
  have X6 : Ext h0 h6 := ext_keep X5 K6 (all1 (by rw [g2]; exact E1.1))
  refine Go.dup W6.cx d_method_3_144 rfl ?_
  refine Go.iconst W6.cx d_method_3_145 (z := (4 : Int32)) rfl ?_
  refine Go.iload W6.cx d_method_3_146 (v := c4) rfl ?_
  refine Go.castore W6 4 d_method_3_148 V6 (by simp) rfl (Nat.le_of_ble_eq_true rfl) (Nat.le_of_ble_eq_true rfl) (x' := c4) (nar_ch q4) ?_
  intro T7 h7 W7 K7 V7
  have V7 : CArr Z h7 a2 ka2 [c0, c1, c2, c3, c4] := V7
  have N7 := N6.keep K7 (nin1 N1.1.lt g2)
  have X7 : Ext h0 h7 := ext_keep X6 K7 (all1 (by rw [g2]; exact E1.1))
  have hp8 : ∀ c ∈ [c0, c1, c2, c3, c4], ¬ c < 0 ∧ ¬ (255 : Int32) < c := all_cons (q0) (all_cons (q1) (all_cons (q2) (all_cons (q3) (all_cons (q4) (all_nil)))))
  refine Go.invi W7 (newStr (wt := 1) W7.ew hw hG N7 V7 (W7.mine (by simp)) (by simp) hp8 (Nat.le_of_ble_eq_true rfl) (Nat.le_of_ble_eq_true rfl) (by decide) (by decide)) d_method_3_149 rfl (wd hw 11 rfl) (wd hw 12 rfl) (wd hw 13 rfl) (by decide) pd_15 rfl rfl (rest := [(.ref a1)]) rfl (Nat.le_of_eq rfl) (cells' := 3) (slots' := 14) rfl rfl (by decide) (by decide) ?_
  rintro T9 h9 W9 z9 ⟨K9, S9⟩
  have X9 : Ext h0 h9 := ext_keep X7 K9 (all1 (Nat.le_of_eq g1.symm))
  exact Go.aret W9 d_method_3_152 rfl rfl rfl (by decide) (by decide) ⟨_, rfl, a1, rfl, X9, S9⟩
theorem pn_7 : plainName "java/lang/Record" = true := by first | (simp [plainName, overriddenIn]; done) | decide +kernel
theorem d_jdk_30_method_1_0 : Dec jdk_30_method_1_code 0 (.aload_n 0) 1 1 := ⟨by decide +kernel, rfl⟩
theorem d_jdk_30_method_1_1 : Dec jdk_30_method_1_code 1 (.invokespecial 1) 3 4 := ⟨by decide +kernel, rfl⟩
theorem d_jdk_30_method_1_4 : Dec jdk_30_method_1_code 4 (.return_) 1 5 := ⟨by decide +kernel, rfl⟩
set_option maxRecDepth 65536 in
set_option maxHeartbeats 40000000 in
theorem c_rec (l : Launch) (Z : State) (a0 : Array Value) (hw : ∀ d ∈ tables_1, d.before a0 Z = true) (hE : EW Z a0 EL0) {n0 : Nat} {h0 : Heap} (hO : Old Z n0 h0) (a : Addr) :
    Ctr NW EL0 n0 Z [] l (⟨"java/lang/Record", "<init>", "()V"⟩ : MethodName) jdk_30_method_1_code 1 none ({ frames := 1, cells := 0, slots := 0, locals := 12 } : Room) #[.ref a] h0 (RN fun h => h0 = h) := by
  refine Ctr.body (plainFor_of_name pn_7) hE hO (fun x q => nomatch q) (L0 := #[.val (.ref a)]) (fun m => by first | (simp [entryFrame, mkF, argsToLocals, Value.category, maxLocals]; done) | rfl) ?_
  intro p e s m below meth c T0 W0
  refine Go.aload_n W0.cx d_jdk_30_method_1_0 (v := (.ref a)) rfl rfl ?_
  refine Go.initObj W0 d_jdk_30_method_1_1 (wd hw 41 rfl) (wd hw 19 rfl) (wd hw 20 rfl) rfl (by decide) (wt := 0) rfl (by decide) ?_
  intro T1 W1
  exact Go.vret W1 d_jdk_30_method_1_4 (by decide) (by decide) ⟨rfl, rfl⟩
theorem pn_8 : plainName "com/example/wheal/wheal/FieldValues$Parameter" = true := by first | (simp [plainName, overriddenIn]; done) | decide +kernel
theorem d_prog_2_method_1_0 : Dec prog_2_method_1_code 0 (.aload_n 0) 1 1 := ⟨by decide +kernel, rfl⟩
theorem d_prog_2_method_1_1 : Dec prog_2_method_1_code 1 (.invokespecial 1) 3 4 := ⟨by decide +kernel, rfl⟩
theorem pd_16 : parseMethodDescriptor "()V" = some ⟨[], none⟩ := by decide +kernel
theorem d_prog_2_method_1_4 : Dec prog_2_method_1_code 4 (.aload_n 0) 1 5 := ⟨by decide +kernel, rfl⟩
theorem d_prog_2_method_1_5 : Dec prog_2_method_1_code 5 (.aload_n 1) 1 6 := ⟨by decide +kernel, rfl⟩
theorem d_prog_2_method_1_6 : Dec prog_2_method_1_code 6 (.putfield 7) 3 9 := ⟨by decide +kernel, rfl⟩
theorem d_prog_2_method_1_9 : Dec prog_2_method_1_code 9 (.aload_n 0) 1 10 := ⟨by decide +kernel, rfl⟩
theorem d_prog_2_method_1_10 : Dec prog_2_method_1_code 10 (.aload_n 2) 1 11 := ⟨by decide +kernel, rfl⟩
theorem d_prog_2_method_1_11 : Dec prog_2_method_1_code 11 (.putfield 13) 3 14 := ⟨by decide +kernel, rfl⟩
theorem d_prog_2_method_1_14 : Dec prog_2_method_1_code 14 (.return_) 1 15 := ⟨by decide +kernel, rfl⟩
set_option maxRecDepth 65536 in
set_option maxHeartbeats 40000000 in
theorem c_pi (l : Launch) (Z : State) (a0 : Array Value) (hw : ∀ d ∈ tables_1, d.before a0 Z = true) (hE : EW Z a0 EL0) {n0 : Nat} {h0 : Heap} (hO : Old Z n0 h0) {a nm v : Addr} (ha : n0 ≤ a) (E_a : Exa Z h0 a "com/example/wheal/wheal/FieldValues$Parameter") (Fna : Fld Z h0 a "com/example/wheal/wheal/FieldValues$Parameter" "name" "Ljava/lang/String;" .null) (Fva : Fld Z h0 a "com/example/wheal/wheal/FieldValues$Parameter" "value" "Ljava/lang/String;" .null) :
    Ctr NW EL0 n0 Z [a] l (⟨"com/example/wheal/wheal/FieldValues$Parameter", "<init>", "(Ljava/lang/String;Ljava/lang/String;)V"⟩ : MethodName) prog_2_method_1_code 3 none ({ frames := 2, cells := 0, slots := 0, locals := 24 } : Room) #[.ref a, .ref nm, .ref v] h0 (RN fun h => Keep h0 h [a] ∧ Exa Z h a "com/example/wheal/wheal/FieldValues$Parameter" ∧ Fld Z h a "com/example/wheal/wheal/FieldValues$Parameter" "value" "Ljava/lang/String;" (.ref v)) := by
  refine Ctr.body (plainFor_of_name pn_8) hE hO (fun z q => by cases List.mem_singleton.mp q; exact ⟨ha, E_a.lt⟩) (L0 := #[.val (.ref a), .val (.ref nm), .val (.ref v)]) (fun m => by first | (simp [entryFrame, mkF, argsToLocals, Value.category, maxLocals]; done) | rfl) ?_
  intro p e s m below meth c T0 W0
  refine Go.aload_n W0.cx d_prog_2_method_1_0 (v := (.ref a)) rfl rfl ?_
  refine Go.invi W0 (Ctr.call (wt := 0) (c_rec l Z a0 hw hE W0.old a) W0.ew (wd hw 40 rfl) (wd hw 39 rfl) (by simp) (by decide) (by decide)) d_prog_2_method_1_1 rfl (wd hw 36 rfl) (wd hw 37 rfl) (wd hw 40 rfl) (by decide) pd_16 rfl rfl (rest := []) rfl (Nat.le_of_eq rfl) (cells' := 0) (slots' := 0) rfl rfl (by decide) (by decide) ?_
  rintro T1 h1 W1 z1 e1
  subst e1
  refine Go.aload_n W1.cx d_prog_2_method_1_4 (v := (.ref a)) rfl rfl ?_
  refine Go.aload_n W1.cx d_prog_2_method_1_5 (v := (.ref nm)) rfl rfl ?_
  refine Go.putf W1 d_prog_2_method_1_6 (wd hw 42 rfl) Via.refl Fna E_a (Or.inr ⟨(wd hw 43 rfl), rfl, rfl⟩) (wd hw 30 rfl) (t := (.object "java/lang/String")) (by decide) (v' := (.ref nm)) rfl rfl (by simp) ?_
  intro T2 h2 W2 R2
  have Fva2 := Fva.other R2 (Or.inr (slot_ne (Or.inr (wd hw 45 rfl)) (Or.inr (wd hw 43 rfl)) (by decide) (t := (.object "java/lang/String")) (t' := (.object "java/lang/String")) (by decide) (by decide)))
  refine Go.aload_n W2.cx d_prog_2_method_1_9 (v := (.ref a)) rfl rfl ?_
  refine Go.aload_n W2.cx d_prog_2_method_1_10 (v := (.ref v)) rfl rfl ?_
  refine Go.putf W2 d_prog_2_method_1_11 (wd hw 44 rfl) Via.refl Fva2 (E_a.wr R2) (Or.inr ⟨(wd hw 45 rfl), rfl, rfl⟩) (wd hw 30 rfl) (t := (.object "java/lang/String")) (by decide) (v' := (.ref v)) rfl rfl (by simp) ?_
  intro T3 h3 W3 R3
  exact Go.vret W3 d_prog_2_method_1_14 (by decide) (by decide) ⟨rfl, ((Keep.refl h0 [a]).wr R2 (Or.inl (by simp))).wr R3 (Or.inl (by simp)), (E_a.wr R2).wr R3, Fva2.same R3⟩
theorem d_prog_2_method_3_0 : Dec prog_2_method_3_code 0 (.aload_n 0) 1 1 := ⟨by decide +kernel, rfl⟩
theorem d_prog_2_method_3_1 : Dec prog_2_method_3_code 1 (.getfield 13) 3 4 := ⟨by decide +kernel, rfl⟩
theorem d_prog_2_method_3_4 : Dec prog_2_method_3_code 4 (.astore_n 1) 1 5 := ⟨by decide +kernel, rfl⟩
theorem d_prog_2_method_3_5 : Dec prog_2_method_3_code 5 (.aload_n 0) 1 6 := ⟨by decide +kernel, rfl⟩
theorem d_prog_2_method_3_6 : Dec prog_2_method_3_code 6 (.getfield 13) 3 9 := ⟨by decide +kernel, rfl⟩
theorem d_prog_2_method_3_9 : Dec prog_2_method_3_code 9 (.ldc 58) 2 11 := ⟨by decide +kernel, rfl⟩
theorem d_prog_2_method_3_11 : Dec prog_2_method_3_code 11 (.invokevirtual 60) 3 14 := ⟨by decide +kernel, rfl⟩
theorem pd_17 : parseMethodDescriptor "(Ljava/lang/String;)Z" = some ⟨[(.object "java/lang/String")], some .boolean⟩ := by decide +kernel
theorem d_prog_2_method_3_14 : Dec prog_2_method_3_code 14 (.ifCond .eq 77) 3 17 := ⟨by decide +kernel, rfl⟩
theorem d_prog_2_method_3_91 : Dec prog_2_method_3_code 91 (.aload_n 1) 1 92 := ⟨by decide +kernel, rfl⟩
theorem d_prog_2_method_3_92 : Dec prog_2_method_3_code 92 (.areturn) 1 93 := ⟨by decide +kernel, rfl⟩
theorem d_prog_2_method_3_17 : Dec prog_2_method_3_code 17 (.new 65) 3 20 := ⟨by decide +kernel, rfl⟩
theorem d_prog_2_method_3_20 : Dec prog_2_method_3_code 20 (.dup) 1 21 := ⟨by decide +kernel, rfl⟩
theorem d_prog_2_method_3_21 : Dec prog_2_method_3_code 21 (.invokespecial 67) 3 24 := ⟨by decide +kernel, rfl⟩
theorem d_prog_2_method_3_24 : Dec prog_2_method_3_code 24 (.astore_n 2) 1 25 := ⟨by decide +kernel, rfl⟩
theorem d_prog_2_method_3_25 : Dec prog_2_method_3_code 25 (.iconst 0) 1 26 := ⟨by decide +kernel, rfl⟩
theorem d_prog_2_method_3_26 : Dec prog_2_method_3_code 26 (.istore_n 3) 1 27 := ⟨by decide +kernel, rfl⟩
theorem d_prog_2_method_3_27 : Dec prog_2_method_3_code 27 (.iconst 1) 1 28 := ⟨by decide +kernel, rfl⟩
theorem d_prog_2_method_3_28 : Dec prog_2_method_3_code 28 (.istore 4) 2 30 := ⟨by decide +kernel, rfl⟩
theorem d_prog_2_method_3_30 : Dec prog_2_method_3_code 30 (.iload 4) 2 32 := ⟨by decide +kernel, rfl⟩
theorem d_prog_2_method_3_32 : Dec prog_2_method_3_code 32 (.aload_n 0) 1 33 := ⟨by decide +kernel, rfl⟩
theorem d_prog_2_method_3_33 : Dec prog_2_method_3_code 33 (.getfield 13) 3 36 := ⟨by decide +kernel, rfl⟩
theorem d_prog_2_method_3_36 : Dec prog_2_method_3_code 36 (.invokevirtual 68) 3 39 := ⟨by decide +kernel, rfl⟩
theorem d_prog_2_method_3_39 : Dec prog_2_method_3_code 39 (.iconst 1) 1 40 := ⟨by decide +kernel, rfl⟩
theorem d_prog_2_method_3_40 : Dec prog_2_method_3_code 40 (.isub) 1 41 := ⟨by decide +kernel, rfl⟩
theorem d_prog_2_method_3_41 : Dec prog_2_method_3_code 41 (.if_icmp .ge 45) 3 44 := ⟨by decide +kernel, rfl⟩
theorem d_prog_2_method_3_86 : Dec prog_2_method_3_code 86 (.aload_n 2) 1 87 := ⟨by decide +kernel, rfl⟩
theorem d_prog_2_method_3_87 : Dec prog_2_method_3_code 87 (.invokevirtual 80) 3 90 := ⟨by decide +kernel, rfl⟩
theorem pd_18 : parseMethodDescriptor "()Ljava/lang/String;" = some ⟨[], some (.object "java/lang/String")⟩ := by decide +kernel
theorem d_prog_2_method_3_90 : Dec prog_2_method_3_code 90 (.astore_n 1) 1 91 := ⟨by decide +kernel, rfl⟩
theorem d_prog_2_method_3_44 : Dec prog_2_method_3_code 44 (.aload_n 0) 1 45 := ⟨by decide +kernel, rfl⟩
theorem d_prog_2_method_3_45 : Dec prog_2_method_3_code 45 (.getfield 13) 3 48 := ⟨by decide +kernel, rfl⟩
theorem d_prog_2_method_3_48 : Dec prog_2_method_3_code 48 (.iload 4) 2 50 := ⟨by decide +kernel, rfl⟩
theorem d_prog_2_method_3_50 : Dec prog_2_method_3_code 50 (.invokevirtual 72) 3 53 := ⟨by decide +kernel, rfl⟩
theorem pd_19 : parseMethodDescriptor "(I)C" = some ⟨[.int], some .char⟩ := by decide +kernel
theorem d_prog_2_method_3_53 : Dec prog_2_method_3_code 53 (.istore 5) 2 55 := ⟨by decide +kernel, rfl⟩
theorem d_prog_2_method_3_55 : Dec prog_2_method_3_code 55 (.iload 5) 2 57 := ⟨by decide +kernel, rfl⟩
theorem d_prog_2_method_3_57 : Dec prog_2_method_3_code 57 (.bipush 92) 2 59 := ⟨by decide +kernel, rfl⟩
theorem d_prog_2_method_3_59 : Dec prog_2_method_3_code 59 (.if_icmp .ne 12) 3 62 := ⟨by decide +kernel, rfl⟩
theorem d_prog_2_method_3_71 : Dec prog_2_method_3_code 71 (.aload_n 2) 1 72 := ⟨by decide +kernel, rfl⟩
theorem d_prog_2_method_3_72 : Dec prog_2_method_3_code 72 (.iload 5) 2 74 := ⟨by decide +kernel, rfl⟩
theorem d_prog_2_method_3_74 : Dec prog_2_method_3_code 74 (.invokevirtual 76) 3 77 := ⟨by decide +kernel, rfl⟩
theorem pd_20 : parseMethodDescriptor "(C)Ljava/lang/StringBuilder;" = some ⟨[.char], some (.object "java/lang/StringBuilder")⟩ := by decide +kernel
theorem d_prog_2_method_3_77 : Dec prog_2_method_3_code 77 (.pop) 1 78 := ⟨by decide +kernel, rfl⟩
theorem d_prog_2_method_3_78 : Dec prog_2_method_3_code 78 (.iconst 0) 1 79 := ⟨by decide +kernel, rfl⟩
theorem d_prog_2_method_3_79 : Dec prog_2_method_3_code 79 (.istore_n 3) 1 80 := ⟨by decide +kernel, rfl⟩
theorem d_prog_2_method_3_80 : Dec prog_2_method_3_code 80 (.iinc 4 1) 3 83 := ⟨by decide +kernel, rfl⟩
theorem d_prog_2_method_3_83 : Dec prog_2_method_3_code 83 (.goto (-53)) 3 86 := ⟨by decide +kernel, rfl⟩
theorem d_prog_2_method_3_62 : Dec prog_2_method_3_code 62 (.iload_n 3) 1 63 := ⟨by decide +kernel, rfl⟩
theorem d_prog_2_method_3_63 : Dec prog_2_method_3_code 63 (.ifCond .ne 8) 3 66 := ⟨by decide +kernel, rfl⟩
theorem d_prog_2_method_3_66 : Dec prog_2_method_3_code 66 (.iconst 1) 1 67 := ⟨by decide +kernel, rfl⟩
theorem d_prog_2_method_3_67 : Dec prog_2_method_3_code 67 (.istore_n 3) 1 68 := ⟨by decide +kernel, rfl⟩
theorem d_prog_2_method_3_68 : Dec prog_2_method_3_code 68 (.goto 12) 3 71 := ⟨by decide +kernel, rfl⟩
set_option maxRecDepth 65536 in
set_option maxHeartbeats 40000000 in
theorem c_unq (l : Launch) (Z : State) (a0 : Array Value) (hw : ∀ d ∈ tables_1, d.before a0 Z = true) (hE : EW Z a0 EL0) {n0 : Nat} {h0 : Heap} (hO : Old Z n0 h0) (hG : Gl Z) {t v : Addr} {cs : List Int32} (Fv : Fld Z h0 t "com/example/wheal/wheal/FieldValues$Parameter" "value" "Ljava/lang/String;" (.ref v)) (S : Str Z h0 v cs) (h5 : cs.length ≤ 5) :
    Ctr NW EL0 n0 Z [] l (⟨"com/example/wheal/wheal/FieldValues$Parameter", "unquoted", "()Ljava/lang/String;"⟩ : MethodName) prog_2_method_3_code 6 (some (.object "java/lang/String")) ({ frames := 6, cells := 6, slots := 40, locals := 91 } : Room) #[.ref t] h0 (RV fun w h => ∃ r us, w = .ref r ∧ Ext h0 h ∧ Str Z h r us ∧ ((¬ Sw cs 0 [34] ∧ us = cs) ∨ (Sw cs 0 [34] ∧ us = ue false ((cs.take (cs.length - 1)).drop 1)))) := by
  refine Ctr.body (plainFor_of_name pn_8) hE hO (fun x q => nomatch q) (L0 := #[.val (.ref t), .unset, .unset, .unset, .unset, .unset]) (fun m => by first | (simp [entryFrame, mkF, argsToLocals, Value.category, maxLocals]; done) | rfl) ?_
  intro p e s m below meth c T0 W0
  have hpc := S.2.2.2.1
  refine Go.aload_n W0.cx d_prog_2_method_3_0 (v := (.ref t)) rfl rfl ?_
  refine Go.getf W0 d_prog_2_method_3_1 (wd hw 44 rfl) Via.refl Fv ?_
  intro T1 W1
  refine Go.astore_n W1.cx d_prog_2_method_3_4 (L' := #[.val (.ref t), .val (.ref v), .unset, .unset, .unset, .unset]) rfl rfl ?_
  refine Go.aload_n W1.cx d_prog_2_method_3_5 (v := (.ref t)) rfl rfl ?_
  refine Go.getf W1 d_prog_2_method_3_6 (wd hw 44 rfl) Via.refl Fv ?_
  intro T2 W2
  refine Go.ldcS W2 (fun q => q) d_prog_2_method_3_9 (wd hw 51 rfl) (wS hw) (by decide) (cs := [34]) ⟨by decide, by decide +kernel⟩ (by decide) (by decide) (nn := 4) (by decide) (by decide) (cells' := 2) (slots' := 8) rfl rfl (by decide) (by decide) ?_
  intro T3 h3 l3 b3 kb3 W3 E3 A3 C3 V3 B3 X3 S3
  have Sv := S.ext E3
  have Fv1 := Fv.ext E3
  refine Go.invv1 W3 (Ctr.call (wt := 0) (c_sw1 l Z a0 hw hE W3.old hG Sv S3 (by decide)) W3.ew (wd hw 56 rfl) (wd hw 9 rfl) (by simp) (by decide) (by decide)) d_prog_2_method_3_11 (wd hw 52 rfl) (wd hw 53 rfl) (wd hw 55 rfl) (wd hw 54 rfl) (by decide) Sv.exa pd_17 rfl rfl (rest := []) rfl (Nat.le_of_eq rfl) (cells' := 2) (slots' := 8) rfl rfl (by decide) (by decide) ?_
  rintro T4 h4 _ W4 z4 ⟨y4, rfl, B4, e4⟩
  subst e4
  refine Go.ifeq W4.cx d_prog_2_method_3_14 (by decide) (q := 91) rfl (fun c1 => ?_) (fun c1 => ?_)
  · refine Go.aload_n W4.cx d_prog_2_method_3_91 (v := (.ref v)) rfl rfl ?_
    exact Go.aret W4 d_prog_2_method_3_92 rfl rfl rfl (by decide) (by decide) ⟨_, rfl, v, cs, rfl, E3, Sv, Or.inl ⟨B4.no c1, rfl⟩⟩
  · have hsw := B4.yes c1
    have hl1 : 1 ≤ cs.length := hsw.1
    refine Go.new W4 d_prog_2_method_3_17 (wd hw 92 rfl) (wd hw 93 rfl) (wd hw 94 rfl) (cells' := 3) (slots' := 12) rfl rfl (by decide) (by decide) ?_
    intro T5 h5 a5 g5 W5 E5 A5 D5
    have Fv5 := D5 (Or.inl (wd hw 107 rfl)) (t := .array .byte) (by decide)
    have Fc5 := D5 (Or.inl (wd hw 109 rfl)) (t := .byte) (by decide)
    have Fn5 := D5 (Or.inl (wd hw 144 rfl)) (t := .int) (by decide)
    refine Go.dup W5.cx d_prog_2_method_3_20 rfl ?_
    refine Go.invi W5 (Ctr.call (wt := 1) (c_sbi l Z a0 hw hE W5.old hG (W5.mine (by simp)).1 A5 Fv5 Fc5 Fn5) W5.ew (wd hw 97 rfl) (wd hw 94 rfl) (by simp) (by decide) (by decide)) d_prog_2_method_3_21 rfl (wd hw 95 rfl) (wd hw 96 rfl) (wd hw 97 rfl) (by decide) pd_16 rfl rfl (rest := [(.ref a5)]) rfl (Nat.le_of_eq rfl) (cells' := 4) (slots' := 28) rfl rfl (by decide) (by decide) ?_
    rintro T6 h6 W6 z6 ⟨b6, kb6, K6, l6, B6⟩
    have X6 : Ext h0 h6 := ext_keep (ext_trans E3 E5) K6 (all1 (by rw [g5]; exact E3.1))
    have la : h0.size ≤ a5 := by rw [g5]; exact E3.1
    have lb : h0.size ≤ b6 := Nat.le_trans (Nat.le_trans E3.1 E5.1) l6
    obtain ⟨bs, BA, hbs, -⟩ := B6.2.2.2.2.1
    have WB := W6.bar BA (Nat.le_trans (old_le hO) lb) (by omega) (hTx hw hbs)
    have W69 := WB
    have T69 := T6
    refine Go.astore_n W69.cx d_prog_2_method_3_24 (L' := #[.val (.ref t), .val (.ref v), .val (.ref a5), .unset, .unset, .unset]) rfl rfl ?_
    refine Go.iconst W69.cx d_prog_2_method_3_25 (z := (0 : Int32)) rfl ?_
    refine Go.istore_n W69.cx d_prog_2_method_3_26 (L' := #[.val (.ref t), .val (.ref v), .val (.ref a5), .val (.int (0 : Int32)), .unset, .unset]) rfl ?_
    refine Go.iconst W69.cx d_prog_2_method_3_27 (z := (1 : Int32)) rfl ?_
    refine Go.istore W69.cx d_prog_2_method_3_28 (L' := #[.val (.ref t), .val (.ref v), .val (.ref a5), .val (.int (0 : Int32)), .val (.int (1 : Int32)), .unset]) rfl ?_
    have loop : ∀ (j i : Nat) (e0 : Bool) (ez : Int32) (acc : List Int32) (T : State) (h : Heap) (s5 : Slot), (cs.length - 1) - i = j → 1 ≤ i → acc.length + 1 ≤ i → i ≤ 6 → Bo (e0 = true) ez → acc ++ ue e0 ((cs.take (cs.length - 1)).drop i) = ue false ((cs.take (cs.length - 1)).drop 1) → (s5 = .unset ∨ ∃ x : Int32, s5 = .val (.int x)) → Wk NW EL0 n0 Z a0 "com/example/wheal/wheal/FieldValues$Parameter" "unquoted" prog_2_method_3_code 6 (some (.object "java/lang/String")) p l e ({ frames := 6, cells := 6, slots := 40, locals := 91 } : Room) s m #[.ref t] below meth c T h [b6, a5] 4 28 → Ext h0 h → SBd Z h a5 b6 kb6 acc → Go p e below (Endp NW EL0 n0 Z below s ({ frames := 6, cells := 6, slots := 40, locals := 91 } : Room).cells ({ frames := 6, cells := 6, slots := 40, locals := 91 } : Room).slots (RV fun w h => ∃ r us, w = .ref r ∧ Ext h0 h ∧ Str Z h r us ∧ ((¬ Sw cs 0 [34] ∧ us = cs) ∨ (Sw cs 0 [34] ∧ us = ue false ((cs.take (cs.length - 1)).drop 1))))) T (mkF m 30 #[.val (.ref t), .val (.ref v), .val (.ref a5), .val (.int ez), .val (.int (Int32.ofNat i)), s5] []) := by
      intro j
      induction j with
      | zero =>
        intro i e0 ez acc T101 h101 s5 hj h1i hacc hi6 he hG0 hs5 W101 X101 B101
        have Sx := S.ext X101
        have Fx := Fv.ext X101
        refine Go.iload W101.cx d_prog_2_method_3_30 (v := (Int32.ofNat i)) rfl ?_
        refine Go.aload_n W101.cx d_prog_2_method_3_32 (v := (.ref t)) rfl rfl ?_
        refine Go.getf W101 d_prog_2_method_3_33 (wd hw 44 rfl) Via.refl Fx ?_
        intro T102 W102
        refine Go.invv1 W102 (strLen (wt := 1) W102.ew hw hG Sx (by decide) (by decide)) d_prog_2_method_3_36 (wd hw 110 rfl) (wd hw 63 rfl) (wd hw 65 rfl) (wd hw 64 rfl) (by decide) Sx.exa pd_1 rfl rfl (rest := [(.int (Int32.ofNat i))]) rfl (Nat.le_of_eq rfl) (cells' := 4) (slots' := 28) rfl rfl (by decide) (by decide) ?_
        rintro T103 h103 _ W103 z103 ⟨rfl, e103⟩
        subst e103
        refine Go.iconst W103.cx d_prog_2_method_3_39 (z := (1 : Int32)) rfl ?_
        refine Go.isub W103.cx d_prog_2_method_3_40 ?_
        refine Go.top (sub1_nat (by omega) (by omega)) ?_
        refine Go.icge W103.cx d_prog_2_method_3_41 (by decide) (q := 86) rfl (fun _ => ?_) (fun hh => (by first | exact absurd (show ¬ Int32.ofNat i < Int32.ofNat (cs.length - 1) by rw [lt_nat (by omega) (by omega)]; omega) hh | exact absurd hh (show ¬ Int32.ofNat i < Int32.ofNat (cs.length - 1) by rw [lt_nat (by omega) (by omega)]; omega)))
        refine Go.aload_n W103.cx d_prog_2_method_3_86 (v := (.ref a5)) rfl rfl ?_
        refine Go.invv1 W103 (Ctr.call (wt := 0) (c_toS l Z a0 hw hE W103.old hG B101) W103.ew (wd hw 162 rfl) (wd hw 94 rfl) (by simp) (by decide) (by decide)) d_prog_2_method_3_87 (wd hw 158 rfl) (wd hw 159 rfl) (wd hw 161 rfl) (wd hw 160 rfl) (by decide) B101.1 pd_18 rfl rfl (rest := []) rfl (Nat.le_of_eq rfl) (cells' := 6) (slots' := 40) rfl rfl (by decide) (by decide) ?_
        rintro T104 h104 _ W104 z104 ⟨r104, rfl, E104, S104⟩
        refine Go.astore_n W104.cx d_prog_2_method_3_90 (L' := #[.val (.ref t), .val (.ref r104), .val (.ref a5), .val (.int ez), .val (.int (Int32.ofNat i)), s5]) rfl rfl ?_
        refine Go.aload_n W104.cx d_prog_2_method_3_91 (v := (.ref r104)) rfl rfl ?_
        have hG1 : acc = ue false ((cs.take (cs.length - 1)).drop 1) := by rw [← hG0, List.drop_eq_nil_of_le (by rw [List.length_take]; omega)]; simp [ue]
        exact Go.aret W104 d_prog_2_method_3_92 rfl rfl rfl (by decide) (by decide) ⟨_, rfl, r104, acc, rfl, ext_trans X101 E104, S104, Or.inr ⟨hsw, hG1⟩⟩
      | succ j ih =>
        intro i e0 ez acc T101 h101 s5 hj h1i hacc hi6 he hG0 hs5 W101 X101 B101
        have Sx := S.ext X101
        have Fx := Fv.ext X101
        refine Go.iload W101.cx d_prog_2_method_3_30 (v := (Int32.ofNat i)) rfl ?_
        refine Go.aload_n W101.cx d_prog_2_method_3_32 (v := (.ref t)) rfl rfl ?_
        refine Go.getf W101 d_prog_2_method_3_33 (wd hw 44 rfl) Via.refl Fx ?_
        intro T102 W102
        refine Go.invv1 W102 (strLen (wt := 1) W102.ew hw hG Sx (by decide) (by decide)) d_prog_2_method_3_36 (wd hw 110 rfl) (wd hw 63 rfl) (wd hw 65 rfl) (wd hw 64 rfl) (by decide) Sx.exa pd_1 rfl rfl (rest := [(.int (Int32.ofNat i))]) rfl (Nat.le_of_eq rfl) (cells' := 4) (slots' := 28) rfl rfl (by decide) (by decide) ?_
        rintro T103 h103 _ W103 z103 ⟨rfl, e103⟩
        subst e103
        refine Go.iconst W103.cx d_prog_2_method_3_39 (z := (1 : Int32)) rfl ?_
        refine Go.isub W103.cx d_prog_2_method_3_40 ?_
        refine Go.top (sub1_nat (by omega) (by omega)) ?_
        refine Go.icge W103.cx d_prog_2_method_3_41 (by decide) (q := 86) rfl (fun hh => (by first | exact absurd (show Int32.ofNat i < Int32.ofNat (cs.length - 1) by rw [lt_nat (by omega) (by omega)]; omega) hh | exact absurd hh (show Int32.ofNat i < Int32.ofNat (cs.length - 1) by rw [lt_nat (by omega) (by omega)]; omega))) (fun _ => ?_)
        refine Go.aload_n W103.cx d_prog_2_method_3_44 (v := (.ref t)) rfl rfl ?_
        refine Go.getf W103 d_prog_2_method_3_45 (wd hw 44 rfl) Via.refl Fx ?_
        intro T104 W104
        refine Go.iload W104.cx d_prog_2_method_3_48 (v := (Int32.ofNat i)) rfl ?_
        refine Go.invv1 W104 (strAt (wt := 0) W104.ew hw hG i Sx (by omega) rfl (by decide) (by decide)) d_prog_2_method_3_50 (wd hw 111 rfl) (wd hw 112 rfl) (wd hw 114 rfl) (wd hw 113 rfl) (by decide) Sx.exa pd_19 rfl rfl (rest := []) rfl (Nat.le_of_eq rfl) (cells' := 4) (slots' := 28) rfl rfl (by decide) (by decide) ?_
        rintro T105 h105 _ W105 z105 ⟨rfl, e105⟩
        subst e105
        have hrg := getD_ch hpc (i := i) (by omega)
        rw [dropcons (i := i) (by omega) (Nat.sub_le _ _)] at hG0
        obtain ⟨cc, hcc⟩ : ∃ z : Int32, z = (cs.getD i 0) := ⟨_, rfl⟩
        refine Go.top hcc.symm ?_
        rw [← hcc] at hrg hG0
        refine Go.istore W105.cx d_prog_2_method_3_53 (L' := #[.val (.ref t), .val (.ref v), .val (.ref a5), .val (.int ez), .val (.int (Int32.ofNat i)), .val (.int cc)]) (by rcases hs5 with rfl | ⟨_, rfl⟩ <;> rfl) ?_
        refine Go.iload W105.cx d_prog_2_method_3_55 (v := cc) rfl ?_
        refine Go.bipush W105.cx d_prog_2_method_3_57 (z := (92 : Int32)) rfl ?_
        have J71 : ¬ (cc = 92 ∧ e0 = false) → Go p e below (Endp NW EL0 n0 Z below s ({ frames := 6, cells := 6, slots := 40, locals := 91 } : Room).cells ({ frames := 6, cells := 6, slots := 40, locals := 91 } : Room).slots (RV fun w h => ∃ r us, w = .ref r ∧ Ext h0 h ∧ Str Z h r us ∧ ((¬ Sw cs 0 [34] ∧ us = cs) ∨ (Sw cs 0 [34] ∧ us = ue false ((cs.take (cs.length - 1)).drop 1))))) T105 (mkF m 71 #[.val (.ref t), .val (.ref v), .val (.ref a5), .val (.int ez), .val (.int (Int32.ofNat i)), .val (.int cc)] []) := by
          intro hno
          have hG2 : (acc ++ [cc]) ++ ue false ((cs.take (cs.length - 1)).drop (i + 1)) = ue false ((cs.take (cs.length - 1)).drop 1) := by rw [← hG0]; simp only [ue]; rw [if_neg hno]; simp
          refine Go.aload_n W105.cx d_prog_2_method_3_71 (v := (.ref a5)) rfl rfl ?_
          refine Go.iload W105.cx d_prog_2_method_3_72 (v := cc) rfl ?_
          refine Go.invv1 W105 (Ctr.call (wt := 0) (c_sbapp l Z a0 hw hE W105.old hG B101 (W105.mine (by simp)).1 (W105.mine (by simp)).1 (by omega) hrg) W105.ew (wd hw 137 rfl) (wd hw 94 rfl) (by simp) (by decide) (by decide)) d_prog_2_method_3_74 (wd hw 133 rfl) (wd hw 134 rfl) (wd hw 136 rfl) (wd hw 135 rfl) (by decide) B101.1 pd_20 rfl rfl (rest := []) rfl (Nat.le_of_eq rfl) (cells' := 4) (slots' := 28) rfl rfl (by decide) (by decide) ?_
          rintro T106 h106 _ W106 z106 ⟨rfl, K106, B106⟩
          refine Go.pop W106.cx d_prog_2_method_3_77 rfl ?_
          refine Go.iconst W106.cx d_prog_2_method_3_78 (z := (0 : Int32)) rfl ?_
          refine Go.istore_n W106.cx d_prog_2_method_3_79 (L' := #[.val (.ref t), .val (.ref v), .val (.ref a5), .val (.int (0 : Int32)), .val (.int (Int32.ofNat i)), .val (.int cc)]) rfl ?_
          refine Go.iinc W106.cx d_prog_2_method_3_80 (z := (Int32.ofNat (i + 1))) (L' := #[.val (.ref t), .val (.ref v), .val (.ref a5), .val (.int (0 : Int32)), .val (.int (Int32.ofNat (i + 1))), .val (.int cc)]) rfl (add1_nat i) rfl ?_
          refine Go.goto W106.cx d_prog_2_method_3_83 (by decide) (q := 30) rfl ?_
          exact ih (i + 1) false _ (acc ++ [cc]) _ _ _ (by omega) (by omega) (by simp; omega) (by omega) (Bo.ff (by decide)) hG2 (Or.inr ⟨_, rfl⟩) W106 (ext_keep X101 K106 (fun z q => by rcases List.mem_cons.mp q with rfl | q; exact la; cases List.mem_singleton.mp q; exact lb)) B106
        refine Go.icne W105.cx d_prog_2_method_3_59 (by decide) (q := 71) rfl (fun d1 => ?_) (fun d1 => ?_)
        · exact J71 (fun z => d1 z.1)
        · refine Go.iload_n W105.cx d_prog_2_method_3_62 (v := ez) rfl ?_
          refine Go.ifne W105.cx d_prog_2_method_3_63 (by decide) (q := 71) rfl (fun d2 => ?_) (fun d2 => ?_)
          · exact J71 (fun z => by have := he.yes d2; rw [z.2] at this; cases this)
          · have he0 : e0 = false := by cases e0; rfl; exact absurd rfl (he.no d2)
            have hG2 : acc ++ ue true ((cs.take (cs.length - 1)).drop (i + 1)) = ue false ((cs.take (cs.length - 1)).drop 1) := by rw [← hG0]; simp only [ue]; rw [if_pos ⟨d1, he0⟩]
            refine Go.iconst W105.cx d_prog_2_method_3_66 (z := (1 : Int32)) rfl ?_
            refine Go.istore_n W105.cx d_prog_2_method_3_67 (L' := #[.val (.ref t), .val (.ref v), .val (.ref a5), .val (.int (1 : Int32)), .val (.int (Int32.ofNat i)), .val (.int cc)]) rfl ?_
            refine Go.goto W105.cx d_prog_2_method_3_68 (by decide) (q := 80) rfl ?_
            refine Go.iinc W105.cx d_prog_2_method_3_80 (z := (Int32.ofNat (i + 1))) (L' := #[.val (.ref t), .val (.ref v), .val (.ref a5), .val (.int (1 : Int32)), .val (.int (Int32.ofNat (i + 1))), .val (.int cc)]) rfl (add1_nat i) rfl ?_
            refine Go.goto W105.cx d_prog_2_method_3_83 (by decide) (q := 30) rfl ?_
            exact ih (i + 1) true _ acc _ _ _ (by omega) (by omega) (by omega) (by omega) (Bo.tt rfl) hG2 (Or.inr ⟨_, rfl⟩) W105 X101 B101
    exact loop _ 1 false _ [] _ _ _ rfl (by omega) (by simp) (by omega) (Bo.ff (by decide)) rfl (Or.inl rfl) W69 X6 B6
theorem d_jdk_29_method_65_0 : Dec jdk_29_method_65_code 0 (.iload_n 0) 1 1 := ⟨by decide +kernel, rfl⟩
theorem d_jdk_29_method_65_1 : Dec jdk_29_method_65_code 1 (.iload_n 1) 1 2 := ⟨by decide +kernel, rfl⟩
theorem d_jdk_29_method_65_2 : Dec jdk_29_method_65_code 2 (.if_icmp .lt 7) 3 5 := ⟨by decide +kernel, rfl⟩
theorem d_jdk_29_method_65_9 : Dec jdk_29_method_65_code 9 (.iload_n 1) 1 10 := ⟨by decide +kernel, rfl⟩
theorem d_jdk_29_method_65_10 : Dec jdk_29_method_65_code 10 (.ireturn) 1 11 := ⟨by decide +kernel, rfl⟩
theorem d_jdk_29_method_65_5 : Dec jdk_29_method_65_code 5 (.iload_n 0) 1 6 := ⟨by decide +kernel, rfl⟩
theorem d_jdk_29_method_65_6 : Dec jdk_29_method_65_code 6 (.goto 4) 3 9 := ⟨by decide +kernel, rfl⟩
set_option maxRecDepth 65536 in
set_option maxHeartbeats 40000000 in
theorem c_max0 (l : Launch) (Z : State) (a0 : Array Value) (hw : ∀ d ∈ tables_1, d.before a0 Z = true) (hE : EW Z a0 EL0) {n0 : Nat} {h0 : Heap} (hO : Old Z n0 h0) (x : Int32) :
    Ctr NW EL0 n0 Z [] l (⟨"java/lang/Math", "max", "(II)I"⟩ : MethodName) jdk_29_method_65_code 2 (some .int) ({ frames := 0, cells := 0, slots := 0, locals := 0 } : Room) #[.int x, .int (0 : Int32)] h0 (RV fun w h => w = .int (if x < 0 then 0 else x) ∧ h0 = h) := by
  refine Ctr.body (by decide +kernel) hE hO (fun x q => nomatch q) (L0 := #[.val (.int x), .val (.int (0 : Int32))]) (fun m => by first | (simp [entryFrame, mkF, argsToLocals, Value.category, maxLocals]; done) | rfl) ?_
  intro p e s m below meth c T0 W0
  refine Go.iload_n W0.cx d_jdk_29_method_65_0 (v := x) rfl ?_
  refine Go.iload_n W0.cx d_jdk_29_method_65_1 (v := (0 : Int32)) rfl ?_
  refine Go.iclt W0.cx d_jdk_29_method_65_2 (by decide) (q := 9) rfl (fun c1 => ?_) (fun c1 => ?_)
  · refine Go.iload_n W0.cx d_jdk_29_method_65_9 (v := (0 : Int32)) rfl ?_
    exact Go.iret W0 d_jdk_29_method_65_10 (by simp) rfl (by decide) (by decide) ⟨_, rfl, by rw [if_pos c1], rfl⟩
  · refine Go.iload_n W0.cx d_jdk_29_method_65_5 (v := x) rfl ?_
    refine Go.goto W0.cx d_jdk_29_method_65_6 (by decide) (q := 10) rfl ?_
    exact Go.iret W0 d_jdk_29_method_65_10 (by simp) rfl (by decide) (by decide) ⟨_, rfl, by rw [if_neg c1], rfl⟩
theorem d_code_0 : Dec code 0 (.iload_n 0) 1 1 := ⟨by decide +kernel, rfl⟩
theorem d_code_1 : Dec code 1 (.bipush 7) 2 3 := ⟨by decide +kernel, rfl⟩
theorem d_code_3 : Dec code 3 (.iand) 1 4 := ⟨by decide +kernel, rfl⟩
theorem d_code_4 : Dec code 4 (.bipush 6) 2 6 := ⟨by decide +kernel, rfl⟩
theorem d_code_6 : Dec code 6 (.irem) 1 7 := ⟨by decide +kernel, rfl⟩
theorem d_code_7 : Dec code 7 (.istore 6) 2 9 := ⟨by decide +kernel, rfl⟩
theorem d_code_9 : Dec code 9 (.iload_n 0) 1 10 := ⟨by decide +kernel, rfl⟩
theorem d_code_10 : Dec code 10 (.bipush 8) 2 12 := ⟨by decide +kernel, rfl⟩
theorem d_code_12 : Dec code 12 (.iand) 1 13 := ⟨by decide +kernel, rfl⟩
theorem d_code_25 : Dec code 25 (.istore 7) 2 27 := ⟨by decide +kernel, rfl⟩
theorem d_code_27 : Dec code 27 (.iload_n 2) 1 28 := ⟨by decide +kernel, rfl⟩
theorem d_code_28 : Dec code 28 (.invokestatic 12) 3 31 := ⟨by decide +kernel, rfl⟩
theorem d_code_31 : Dec code 31 (.istore 8) 2 33 := ⟨by decide +kernel, rfl⟩
theorem d_code_33 : Dec code 33 (.iload_n 3) 1 34 := ⟨by decide +kernel, rfl⟩
theorem d_code_34 : Dec code 34 (.invokestatic 12) 3 37 := ⟨by decide +kernel, rfl⟩
theorem d_code_37 : Dec code 37 (.istore 9) 2 39 := ⟨by decide +kernel, rfl⟩
theorem d_code_39 : Dec code 39 (.iload 4) 2 41 := ⟨by decide +kernel, rfl⟩
theorem d_code_41 : Dec code 41 (.invokestatic 12) 3 44 := ⟨by decide +kernel, rfl⟩
theorem d_code_44 : Dec code 44 (.istore 10) 2 46 := ⟨by decide +kernel, rfl⟩
theorem d_code_46 : Dec code 46 (.iload 5) 2 48 := ⟨by decide +kernel, rfl⟩
theorem d_code_48 : Dec code 48 (.invokestatic 12) 3 51 := ⟨by decide +kernel, rfl⟩
theorem d_code_51 : Dec code 51 (.istore 11) 2 53 := ⟨by decide +kernel, rfl⟩
theorem d_code_53 : Dec code 53 (.iload 6) 2 55 := ⟨by decide +kernel, rfl⟩
theorem d_code_55 : Dec code 55 (.iload 7) 2 57 := ⟨by decide +kernel, rfl⟩
theorem d_code_57 : Dec code 57 (.iload 8) 2 59 := ⟨by decide +kernel, rfl⟩
theorem d_code_59 : Dec code 59 (.iload 9) 2 61 := ⟨by decide +kernel, rfl⟩
theorem d_code_61 : Dec code 61 (.iload 10) 2 63 := ⟨by decide +kernel, rfl⟩
theorem d_code_63 : Dec code 63 (.iload 11) 2 65 := ⟨by decide +kernel, rfl⟩
theorem d_code_65 : Dec code 65 (.invokestatic 18) 3 68 := ⟨by decide +kernel, rfl⟩
theorem pd_21 : parseMethodDescriptor "(ICCCCC)Ljava/lang/String;" = some ⟨[.int, .char, .char, .char, .char, .char], some (.object "java/lang/String")⟩ := by decide +kernel
theorem d_code_68 : Dec code 68 (.astore 12) 2 70 := ⟨by decide +kernel, rfl⟩
theorem d_code_70 : Dec code 70 (.new 22) 3 73 := ⟨by decide +kernel, rfl⟩
theorem d_code_73 : Dec code 73 (.dup) 1 74 := ⟨by decide +kernel, rfl⟩
theorem d_code_74 : Dec code 74 (.ldc 24) 2 76 := ⟨by decide +kernel, rfl⟩
theorem d_code_76 : Dec code 76 (.aload 12) 2 78 := ⟨by decide +kernel, rfl⟩
theorem d_code_78 : Dec code 78 (.invokespecial 26) 3 81 := ⟨by decide +kernel, rfl⟩
theorem pd_22 : parseMethodDescriptor "(Ljava/lang/String;Ljava/lang/String;)V" = some ⟨[(.object "java/lang/String"), (.object "java/lang/String")], none⟩ := by decide +kernel
theorem d_code_81 : Dec code 81 (.invokevirtual 29) 3 84 := ⟨by decide +kernel, rfl⟩
theorem d_code_84 : Dec code 84 (.astore 13) 2 86 := ⟨by decide +kernel, rfl⟩
theorem d_code_86 : Dec code 86 (.iload 6) 2 88 := ⟨by decide +kernel, rfl⟩
theorem d_code_88 : Dec code 88 (.ifCond .eq 10) 3 91 := ⟨by decide +kernel, rfl⟩
theorem d_code_98 : Dec code 98 (.aload 12) 2 100 := ⟨by decide +kernel, rfl⟩
theorem d_code_100 : Dec code 100 (.aload 13) 2 102 := ⟨by decide +kernel, rfl⟩
theorem d_code_102 : Dec code 102 (.invokevirtual 33) 3 105 := ⟨by decide +kernel, rfl⟩
theorem pd_23 : parseMethodDescriptor "(Ljava/lang/Object;)Z" = some ⟨[(.object "java/lang/Object")], some .boolean⟩ := by decide +kernel
theorem d_code_105 : Dec code 105 (.ireturn) 1 106 := ⟨by decide +kernel, rfl⟩
theorem d_code_91 : Dec code 91 (.iload 7) 2 93 := ⟨by decide +kernel, rfl⟩
theorem d_code_93 : Dec code 93 (.bipush 34) 2 95 := ⟨by decide +kernel, rfl⟩
theorem d_code_95 : Dec code 95 (.if_icmp .eq 11) 3 98 := ⟨by decide +kernel, rfl⟩
theorem d_code_106 : Dec code 106 (.iload 6) 2 108 := ⟨by decide +kernel, rfl⟩
theorem d_code_108 : Dec code 108 (.iconst 2) 1 109 := ⟨by decide +kernel, rfl⟩
theorem d_code_109 : Dec code 109 (.isub) 1 110 := ⟨by decide +kernel, rfl⟩
theorem d_code_110 : Dec code 110 (.iconst 0) 1 111 := ⟨by decide +kernel, rfl⟩
theorem d_code_111 : Dec code 111 (.invokestatic 37) 3 114 := ⟨by decide +kernel, rfl⟩
theorem d_code_114 : Dec code 114 (.istore 14) 2 116 := ⟨by decide +kernel, rfl⟩
theorem d_code_116 : Dec code 116 (.iconst 3) 1 117 := ⟨by decide +kernel, rfl⟩
theorem d_code_117 : Dec code 117 (.newarray .char) 2 119 := ⟨by decide +kernel, rfl⟩
theorem d_code_119 : Dec code 119 (.astore 15) 2 121 := ⟨by decide +kernel, rfl⟩
theorem d_code_121 : Dec code 121 (.iconst 0) 1 122 := ⟨by decide +kernel, rfl⟩
theorem d_code_122 : Dec code 122 (.istore 16) 2 124 := ⟨by decide +kernel, rfl⟩
theorem d_code_124 : Dec code 124 (.iload 8) 2 126 := ⟨by decide +kernel, rfl⟩
theorem d_code_126 : Dec code 126 (.istore 17) 2 128 := ⟨by decide +kernel, rfl⟩
theorem d_code_128 : Dec code 128 (.iload 9) 2 130 := ⟨by decide +kernel, rfl⟩
theorem d_code_130 : Dec code 130 (.istore 18) 2 132 := ⟨by decide +kernel, rfl⟩
theorem d_code_132 : Dec code 132 (.iload 10) 2 134 := ⟨by decide +kernel, rfl⟩
theorem d_code_134 : Dec code 134 (.istore 19) 2 136 := ⟨by decide +kernel, rfl⟩
theorem d_code_136 : Dec code 136 (.iload 14) 2 138 := ⟨by decide +kernel, rfl⟩
theorem d_code_138 : Dec code 138 (.iconst 1) 1 139 := ⟨by decide +kernel, rfl⟩
theorem d_code_139 : Dec code 139 (.if_icmp .ne 26) 3 142 := ⟨by decide +kernel, rfl⟩
theorem d_code_165 : Dec code 165 (.iload 14) 2 167 := ⟨by decide +kernel, rfl⟩
theorem d_code_167 : Dec code 167 (.iconst 2) 1 168 := ⟨by decide +kernel, rfl⟩
theorem d_code_168 : Dec code 168 (.if_icmp .ne 62) 3 171 := ⟨by decide +kernel, rfl⟩
theorem d_code_230 : Dec code 230 (.iload 14) 2 232 := ⟨by decide +kernel, rfl⟩
theorem d_code_232 : Dec code 232 (.iconst 3) 1 233 := ⟨by decide +kernel, rfl⟩
theorem d_code_233 : Dec code 233 (.if_icmp .ne 115) 3 236 := ⟨by decide +kernel, rfl⟩
theorem d_code_348 : Dec code 348 (.aload 13) 2 350 := ⟨by decide +kernel, rfl⟩
theorem d_code_350 : Dec code 350 (.iload 16) 2 352 := ⟨by decide +kernel, rfl⟩
theorem d_code_352 : Dec code 352 (.aload 15) 2 354 := ⟨by decide +kernel, rfl⟩
theorem d_code_354 : Dec code 354 (.iconst 0) 1 355 := ⟨by decide +kernel, rfl⟩
theorem d_code_355 : Dec code 355 (.caload) 1 356 := ⟨by decide +kernel, rfl⟩
theorem d_code_356 : Dec code 356 (.aload 15) 2 358 := ⟨by decide +kernel, rfl⟩
theorem d_code_358 : Dec code 358 (.iconst 1) 1 359 := ⟨by decide +kernel, rfl⟩
theorem d_code_359 : Dec code 359 (.caload) 1 360 := ⟨by decide +kernel, rfl⟩
theorem d_code_360 : Dec code 360 (.aload 15) 2 362 := ⟨by decide +kernel, rfl⟩
theorem d_code_362 : Dec code 362 (.iconst 2) 1 363 := ⟨by decide +kernel, rfl⟩
theorem d_code_363 : Dec code 363 (.caload) 1 364 := ⟨by decide +kernel, rfl⟩
theorem d_code_364 : Dec code 364 (.bipush 32) 2 366 := ⟨by decide +kernel, rfl⟩
theorem d_code_366 : Dec code 366 (.bipush 32) 2 368 := ⟨by decide +kernel, rfl⟩
theorem d_code_368 : Dec code 368 (.invokestatic 18) 3 371 := ⟨by decide +kernel, rfl⟩
theorem d_code_371 : Dec code 371 (.invokevirtual 33) 3 374 := ⟨by decide +kernel, rfl⟩
theorem d_code_374 : Dec code 374 (.ireturn) 1 375 := ⟨by decide +kernel, rfl⟩
theorem d_code_142 : Dec code 142 (.iload 17) 2 144 := ⟨by decide +kernel, rfl⟩
theorem d_code_144 : Dec code 144 (.bipush 92) 2 146 := ⟨by decide +kernel, rfl⟩
theorem d_code_146 : Dec code 146 (.if_icmp .eq 202) 3 149 := ⟨by decide +kernel, rfl⟩
theorem d_code_149 : Dec code 149 (.aload 15) 2 151 := ⟨by decide +kernel, rfl⟩
theorem d_code_151 : Dec code 151 (.iload 16) 2 153 := ⟨by decide +kernel, rfl⟩
theorem d_code_153 : Dec code 153 (.iload 17) 2 155 := ⟨by decide +kernel, rfl⟩
theorem d_code_155 : Dec code 155 (.castore) 1 156 := ⟨by decide +kernel, rfl⟩
theorem d_code_156 : Dec code 156 (.iload 16) 2 158 := ⟨by decide +kernel, rfl⟩
theorem d_code_158 : Dec code 158 (.iconst 1) 1 159 := ⟨by decide +kernel, rfl⟩
theorem d_code_159 : Dec code 159 (.iadd) 1 160 := ⟨by decide +kernel, rfl⟩
theorem d_code_160 : Dec code 160 (.istore 16) 2 162 := ⟨by decide +kernel, rfl⟩
theorem d_code_162 : Dec code 162 (.goto 186) 3 165 := ⟨by decide +kernel, rfl⟩
theorem d_code_171 : Dec code 171 (.iload 17) 2 173 := ⟨by decide +kernel, rfl⟩
theorem d_code_173 : Dec code 173 (.bipush 92) 2 175 := ⟨by decide +kernel, rfl⟩
theorem d_code_175 : Dec code 175 (.if_icmp .ne 19) 3 178 := ⟨by decide +kernel, rfl⟩
theorem d_code_194 : Dec code 194 (.aload 15) 2 196 := ⟨by decide +kernel, rfl⟩
theorem d_code_196 : Dec code 196 (.iload 16) 2 198 := ⟨by decide +kernel, rfl⟩
theorem d_code_198 : Dec code 198 (.iload 17) 2 200 := ⟨by decide +kernel, rfl⟩
theorem d_code_200 : Dec code 200 (.castore) 1 201 := ⟨by decide +kernel, rfl⟩
theorem d_code_201 : Dec code 201 (.iload 16) 2 203 := ⟨by decide +kernel, rfl⟩
theorem d_code_203 : Dec code 203 (.iconst 1) 1 204 := ⟨by decide +kernel, rfl⟩
theorem d_code_204 : Dec code 204 (.iadd) 1 205 := ⟨by decide +kernel, rfl⟩
theorem d_code_205 : Dec code 205 (.istore 16) 2 207 := ⟨by decide +kernel, rfl⟩
theorem d_code_207 : Dec code 207 (.iload 18) 2 209 := ⟨by decide +kernel, rfl⟩
theorem d_code_209 : Dec code 209 (.bipush 92) 2 211 := ⟨by decide +kernel, rfl⟩
theorem d_code_211 : Dec code 211 (.if_icmp .eq 137) 3 214 := ⟨by decide +kernel, rfl⟩
theorem d_code_214 : Dec code 214 (.aload 15) 2 216 := ⟨by decide +kernel, rfl⟩
theorem d_code_216 : Dec code 216 (.iload 16) 2 218 := ⟨by decide +kernel, rfl⟩
theorem d_code_218 : Dec code 218 (.iload 18) 2 220 := ⟨by decide +kernel, rfl⟩
theorem d_code_220 : Dec code 220 (.castore) 1 221 := ⟨by decide +kernel, rfl⟩
theorem d_code_221 : Dec code 221 (.iload 16) 2 223 := ⟨by decide +kernel, rfl⟩
theorem d_code_223 : Dec code 223 (.iconst 1) 1 224 := ⟨by decide +kernel, rfl⟩
theorem d_code_224 : Dec code 224 (.iadd) 1 225 := ⟨by decide +kernel, rfl⟩
theorem d_code_225 : Dec code 225 (.istore 16) 2 227 := ⟨by decide +kernel, rfl⟩
theorem d_code_227 : Dec code 227 (.goto 121) 3 230 := ⟨by decide +kernel, rfl⟩
theorem d_code_178 : Dec code 178 (.aload 15) 2 180 := ⟨by decide +kernel, rfl⟩
theorem d_code_180 : Dec code 180 (.iload 16) 2 182 := ⟨by decide +kernel, rfl⟩
theorem d_code_182 : Dec code 182 (.iload 18) 2 184 := ⟨by decide +kernel, rfl⟩
theorem d_code_184 : Dec code 184 (.castore) 1 185 := ⟨by decide +kernel, rfl⟩
theorem d_code_185 : Dec code 185 (.iload 16) 2 187 := ⟨by decide +kernel, rfl⟩
theorem d_code_187 : Dec code 187 (.iconst 1) 1 188 := ⟨by decide +kernel, rfl⟩
theorem d_code_188 : Dec code 188 (.iadd) 1 189 := ⟨by decide +kernel, rfl⟩
theorem d_code_189 : Dec code 189 (.istore 16) 2 191 := ⟨by decide +kernel, rfl⟩
theorem d_code_191 : Dec code 191 (.goto 157) 3 194 := ⟨by decide +kernel, rfl⟩
theorem d_code_236 : Dec code 236 (.iload 17) 2 238 := ⟨by decide +kernel, rfl⟩
theorem d_code_238 : Dec code 238 (.bipush 92) 2 240 := ⟨by decide +kernel, rfl⟩
theorem d_code_240 : Dec code 240 (.if_icmp .ne 39) 3 243 := ⟨by decide +kernel, rfl⟩
theorem d_code_279 : Dec code 279 (.aload 15) 2 281 := ⟨by decide +kernel, rfl⟩
theorem d_code_281 : Dec code 281 (.iload 16) 2 283 := ⟨by decide +kernel, rfl⟩
theorem d_code_283 : Dec code 283 (.iload 17) 2 285 := ⟨by decide +kernel, rfl⟩
theorem d_code_285 : Dec code 285 (.castore) 1 286 := ⟨by decide +kernel, rfl⟩
theorem d_code_286 : Dec code 286 (.iload 16) 2 288 := ⟨by decide +kernel, rfl⟩
theorem d_code_288 : Dec code 288 (.iconst 1) 1 289 := ⟨by decide +kernel, rfl⟩
theorem d_code_289 : Dec code 289 (.iadd) 1 290 := ⟨by decide +kernel, rfl⟩
theorem d_code_290 : Dec code 290 (.istore 16) 2 292 := ⟨by decide +kernel, rfl⟩
theorem d_code_292 : Dec code 292 (.iload 18) 2 294 := ⟨by decide +kernel, rfl⟩
theorem d_code_294 : Dec code 294 (.bipush 92) 2 296 := ⟨by decide +kernel, rfl⟩
theorem d_code_296 : Dec code 296 (.if_icmp .ne 19) 3 299 := ⟨by decide +kernel, rfl⟩
theorem d_code_315 : Dec code 315 (.aload 15) 2 317 := ⟨by decide +kernel, rfl⟩
theorem d_code_317 : Dec code 317 (.iload 16) 2 319 := ⟨by decide +kernel, rfl⟩
theorem d_code_319 : Dec code 319 (.iload 18) 2 321 := ⟨by decide +kernel, rfl⟩
theorem d_code_321 : Dec code 321 (.castore) 1 322 := ⟨by decide +kernel, rfl⟩
theorem d_code_322 : Dec code 322 (.iload 16) 2 324 := ⟨by decide +kernel, rfl⟩
theorem d_code_324 : Dec code 324 (.iconst 1) 1 325 := ⟨by decide +kernel, rfl⟩
theorem d_code_325 : Dec code 325 (.iadd) 1 326 := ⟨by decide +kernel, rfl⟩
theorem d_code_326 : Dec code 326 (.istore 16) 2 328 := ⟨by decide +kernel, rfl⟩
theorem d_code_328 : Dec code 328 (.iload 19) 2 330 := ⟨by decide +kernel, rfl⟩
theorem d_code_330 : Dec code 330 (.bipush 92) 2 332 := ⟨by decide +kernel, rfl⟩
theorem d_code_332 : Dec code 332 (.if_icmp .eq 16) 3 335 := ⟨by decide +kernel, rfl⟩
theorem d_code_335 : Dec code 335 (.aload 15) 2 337 := ⟨by decide +kernel, rfl⟩
theorem d_code_337 : Dec code 337 (.iload 16) 2 339 := ⟨by decide +kernel, rfl⟩
theorem d_code_339 : Dec code 339 (.iload 19) 2 341 := ⟨by decide +kernel, rfl⟩
theorem d_code_341 : Dec code 341 (.castore) 1 342 := ⟨by decide +kernel, rfl⟩
theorem d_code_342 : Dec code 342 (.iload 16) 2 344 := ⟨by decide +kernel, rfl⟩
theorem d_code_344 : Dec code 344 (.iconst 1) 1 345 := ⟨by decide +kernel, rfl⟩
theorem d_code_345 : Dec code 345 (.iadd) 1 346 := ⟨by decide +kernel, rfl⟩
theorem d_code_346 : Dec code 346 (.istore 16) 2 348 := ⟨by decide +kernel, rfl⟩
theorem d_code_299 : Dec code 299 (.aload 15) 2 301 := ⟨by decide +kernel, rfl⟩
theorem d_code_301 : Dec code 301 (.iload 16) 2 303 := ⟨by decide +kernel, rfl⟩
theorem d_code_303 : Dec code 303 (.iload 19) 2 305 := ⟨by decide +kernel, rfl⟩
theorem d_code_305 : Dec code 305 (.castore) 1 306 := ⟨by decide +kernel, rfl⟩
theorem d_code_306 : Dec code 306 (.iload 16) 2 308 := ⟨by decide +kernel, rfl⟩
theorem d_code_308 : Dec code 308 (.iconst 1) 1 309 := ⟨by decide +kernel, rfl⟩
theorem d_code_309 : Dec code 309 (.iadd) 1 310 := ⟨by decide +kernel, rfl⟩
theorem d_code_310 : Dec code 310 (.istore 16) 2 312 := ⟨by decide +kernel, rfl⟩
theorem d_code_312 : Dec code 312 (.goto 36) 3 315 := ⟨by decide +kernel, rfl⟩
theorem d_code_243 : Dec code 243 (.aload 15) 2 245 := ⟨by decide +kernel, rfl⟩
theorem d_code_245 : Dec code 245 (.iload 16) 2 247 := ⟨by decide +kernel, rfl⟩
theorem d_code_247 : Dec code 247 (.iload 18) 2 249 := ⟨by decide +kernel, rfl⟩
theorem d_code_249 : Dec code 249 (.castore) 1 250 := ⟨by decide +kernel, rfl⟩
theorem d_code_250 : Dec code 250 (.iload 16) 2 252 := ⟨by decide +kernel, rfl⟩
theorem d_code_252 : Dec code 252 (.iconst 1) 1 253 := ⟨by decide +kernel, rfl⟩
theorem d_code_253 : Dec code 253 (.iadd) 1 254 := ⟨by decide +kernel, rfl⟩
theorem d_code_254 : Dec code 254 (.istore 16) 2 256 := ⟨by decide +kernel, rfl⟩
theorem d_code_256 : Dec code 256 (.iload 19) 2 258 := ⟨by decide +kernel, rfl⟩
theorem d_code_258 : Dec code 258 (.bipush 92) 2 260 := ⟨by decide +kernel, rfl⟩
theorem d_code_260 : Dec code 260 (.if_icmp .eq 88) 3 263 := ⟨by decide +kernel, rfl⟩
theorem d_code_263 : Dec code 263 (.aload 15) 2 265 := ⟨by decide +kernel, rfl⟩
theorem d_code_265 : Dec code 265 (.iload 16) 2 267 := ⟨by decide +kernel, rfl⟩
theorem d_code_267 : Dec code 267 (.iload 19) 2 269 := ⟨by decide +kernel, rfl⟩
theorem d_code_269 : Dec code 269 (.castore) 1 270 := ⟨by decide +kernel, rfl⟩
theorem d_code_270 : Dec code 270 (.iload 16) 2 272 := ⟨by decide +kernel, rfl⟩
theorem d_code_272 : Dec code 272 (.iconst 1) 1 273 := ⟨by decide +kernel, rfl⟩
theorem d_code_273 : Dec code 273 (.iadd) 1 274 := ⟨by decide +kernel, rfl⟩
theorem d_code_274 : Dec code 274 (.istore 16) 2 276 := ⟨by decide +kernel, rfl⟩
theorem d_code_276 : Dec code 276 (.goto 72) 3 279 := ⟨by decide +kernel, rfl⟩
theorem d_code_13 : Dec code 13 (.ifCond .eq 8) 3 16 := ⟨by decide +kernel, rfl⟩
theorem d_code_21 : Dec code 21 (.iload_n 1) 1 22 := ⟨by decide +kernel, rfl⟩
theorem d_code_22 : Dec code 22 (.invokestatic 12) 3 25 := ⟨by decide +kernel, rfl⟩
theorem d_code_16 : Dec code 16 (.bipush 34) 2 18 := ⟨by decide +kernel, rfl⟩
theorem d_code_18 : Dec code 18 (.goto 7) 3 21 := ⟨by decide +kernel, rfl⟩
set_option maxRecDepth 65536 in
set_option maxHeartbeats 40000000 in
theorem c_law (l : Launch) (Z : State) (a0 : Array Value) (hw : ∀ d ∈ tables_1, d.before a0 Z = true) (hE : EW Z a0 EL0) {n0 : Nat} {h0 : Heap} (hO : Old Z n0 h0) (hG : Gl Z) (i0 i1 i2 i3 i4 i5 : Int32) :
    Ctr NW EL0 n0 Z [] l x code maxLocals ret room_1 #[.int i0, .int i1, .int i2, .int i3, .int i4, .int i5] h0 (RV fun w h => w = .int 1) := by
  refine Ctr.body (plainFor_of_name pn_6) hE hO (fun x q => nomatch q) (L0 := #[.val (.int i0), .val (.int i1), .val (.int i2), .val (.int i3), .val (.int i4), .val (.int i5), .unset, .unset, .unset, .unset, .unset, .unset, .unset, .unset, .unset, .unset, .unset, .unset, .unset, .unset]) (fun m => by first | (simp [entryFrame, mkF, argsToLocals, Value.category, maxLocals]; done) | rfl) ?_
  intro p e s m below meth c T0 W0
  refine Go.iload_n W0.cx d_code_0 (v := i0) rfl ?_
  refine Go.bipush W0.cx d_code_1 (z := (7 : Int32)) rfl ?_
  refine Go.iand W0.cx d_code_3 ?_
  refine Go.bipush W0.cx d_code_4 (z := (6 : Int32)) rfl ?_
  refine Go.irem W0.cx d_code_6 (by decide) ?_
  obtain ⟨n, hn, en⟩ := mask76 i0
  refine Go.top en ?_
  refine Go.istore W0.cx d_code_7 (L' := #[.val (.int i0), .val (.int i1), .val (.int i2), .val (.int i3), .val (.int i4), .val (.int i5), .val (.int (Int32.ofNat n)), .unset, .unset, .unset, .unset, .unset, .unset, .unset, .unset, .unset, .unset, .unset, .unset, .unset]) rfl ?_
  refine Go.iload_n W0.cx d_code_9 (v := i0) rfl ?_
  refine Go.bipush W0.cx d_code_10 (z := (8 : Int32)) rfl ?_
  refine Go.iand W0.cx d_code_12 ?_
  have J25 : ∀ (T : State) (v0 : Int32), Wk NW EL0 n0 Z a0 "com/example/wheal/wheal/ParameterUnquotedPinLaw" "law" code maxLocals ret p l e room_1 s m #[.int i0, .int i1, .int i2, .int i3, .int i4, .int i5] below meth c T h0 [] 0 0 → (¬ v0 < 0 ∧ ¬ (255 : Int32) < v0) → Go p e below (Endp NW EL0 n0 Z below s room_1.cells room_1.slots (RV fun w h => w = .int 1)) T (mkF m 25 #[.val (.int i0), .val (.int i1), .val (.int i2), .val (.int i3), .val (.int i4), .val (.int i5), .val (.int (Int32.ofNat n)), .unset, .unset, .unset, .unset, .unset, .unset, .unset, .unset, .unset, .unset, .unset, .unset, .unset] [(.int v0)]) := by
    intro T25 v0 W25 rg0
    refine Go.istore W25.cx d_code_25 (L' := #[.val (.int i0), .val (.int i1), .val (.int i2), .val (.int i3), .val (.int i4), .val (.int i5), .val (.int (Int32.ofNat n)), .val (.int v0), .unset, .unset, .unset, .unset, .unset, .unset, .unset, .unset, .unset, .unset, .unset, .unset]) rfl ?_
    refine Go.iload_n W25.cx d_code_27 (v := i2) rfl ?_
    refine Go.invs1 W25 (Ctr.call (wt := 0) (c_ch l Z a0 hw hE W25.old i2) W25.ew (wd hw 3 rfl) (wd hw 2 rfl) (by simp) (by decide) (by decide)) d_code_28 (wd hw 0 rfl) (wd hw 1 rfl) (wd hw 2 rfl) (wd hw 3 rfl) (by decide) pd_19 rfl rfl (rest := []) rfl (Nat.le_of_eq rfl) (cells' := 0) (slots' := 0) rfl rfl (by decide) (by decide) ?_
    rintro T26 h26 _ W26 z26 ⟨y26, rfl, rg26, e26⟩
    subst e26
    refine Go.istore W26.cx d_code_31 (L' := #[.val (.int i0), .val (.int i1), .val (.int i2), .val (.int i3), .val (.int i4), .val (.int i5), .val (.int (Int32.ofNat n)), .val (.int v0), .val (.int y26), .unset, .unset, .unset, .unset, .unset, .unset, .unset, .unset, .unset, .unset, .unset]) rfl ?_
    refine Go.iload_n W26.cx d_code_33 (v := i3) rfl ?_
    refine Go.invs1 W26 (Ctr.call (wt := 0) (c_ch l Z a0 hw hE W26.old i3) W26.ew (wd hw 3 rfl) (wd hw 2 rfl) (by simp) (by decide) (by decide)) d_code_34 (wd hw 0 rfl) (wd hw 1 rfl) (wd hw 2 rfl) (wd hw 3 rfl) (by decide) pd_19 rfl rfl (rest := []) rfl (Nat.le_of_eq rfl) (cells' := 0) (slots' := 0) rfl rfl (by decide) (by decide) ?_
    rintro T27 h27 _ W27 z27 ⟨y27, rfl, rg27, e27⟩
    subst e27
    refine Go.istore W27.cx d_code_37 (L' := #[.val (.int i0), .val (.int i1), .val (.int i2), .val (.int i3), .val (.int i4), .val (.int i5), .val (.int (Int32.ofNat n)), .val (.int v0), .val (.int y26), .val (.int y27), .unset, .unset, .unset, .unset, .unset, .unset, .unset, .unset, .unset, .unset]) rfl ?_
    refine Go.iload W27.cx d_code_39 (v := i4) rfl ?_
    refine Go.invs1 W27 (Ctr.call (wt := 0) (c_ch l Z a0 hw hE W27.old i4) W27.ew (wd hw 3 rfl) (wd hw 2 rfl) (by simp) (by decide) (by decide)) d_code_41 (wd hw 0 rfl) (wd hw 1 rfl) (wd hw 2 rfl) (wd hw 3 rfl) (by decide) pd_19 rfl rfl (rest := []) rfl (Nat.le_of_eq rfl) (cells' := 0) (slots' := 0) rfl rfl (by decide) (by decide) ?_
    rintro T28 h28 _ W28 z28 ⟨y28, rfl, rg28, e28⟩
    subst e28
    refine Go.istore W28.cx d_code_44 (L' := #[.val (.int i0), .val (.int i1), .val (.int i2), .val (.int i3), .val (.int i4), .val (.int i5), .val (.int (Int32.ofNat n)), .val (.int v0), .val (.int y26), .val (.int y27), .val (.int y28), .unset, .unset, .unset, .unset, .unset, .unset, .unset, .unset, .unset]) rfl ?_
    refine Go.iload W28.cx d_code_46 (v := i5) rfl ?_
    refine Go.invs1 W28 (Ctr.call (wt := 0) (c_ch l Z a0 hw hE W28.old i5) W28.ew (wd hw 3 rfl) (wd hw 2 rfl) (by simp) (by decide) (by decide)) d_code_48 (wd hw 0 rfl) (wd hw 1 rfl) (wd hw 2 rfl) (wd hw 3 rfl) (by decide) pd_19 rfl rfl (rest := []) rfl (Nat.le_of_eq rfl) (cells' := 0) (slots' := 0) rfl rfl (by decide) (by decide) ?_
    rintro T29 h29 _ W29 z29 ⟨y29, rfl, rg29, e29⟩
    subst e29
    refine Go.istore W29.cx d_code_51 (L' := #[.val (.int i0), .val (.int i1), .val (.int i2), .val (.int i3), .val (.int i4), .val (.int i5), .val (.int (Int32.ofNat n)), .val (.int v0), .val (.int y26), .val (.int y27), .val (.int y28), .val (.int y29), .unset, .unset, .unset, .unset, .unset, .unset, .unset, .unset]) rfl ?_
    refine Go.iload W29.cx d_code_53 (v := (Int32.ofNat n)) rfl ?_
    refine Go.iload W29.cx d_code_55 (v := v0) rfl ?_
    refine Go.iload W29.cx d_code_57 (v := y26) rfl ?_
    refine Go.iload W29.cx d_code_59 (v := y27) rfl ?_
    refine Go.iload W29.cx d_code_61 (v := y28) rfl ?_
    refine Go.iload W29.cx d_code_63 (v := y29) rfl ?_
    rcases (show n = 0 ∨ n = 1 ∨ n = 2 ∨ n = 3 ∨ n = 4 ∨ n = 5 by omega) with rfl | rfl | rfl | rfl | rfl | rfl
    · refine Go.invs1 W29 (Ctr.call (wt := 0) (c_str0 l Z a0 hw hE W29.old hG (c0 := v0) (c1 := y26) (c2 := y27) (c3 := y28) (c4 := y29) ) W29.ew (wd hw 6 rfl) (wd hw 2 rfl) (by simp) (by decide) (by decide)) d_code_65 (wd hw 4 rfl) (wd hw 5 rfl) (wd hw 2 rfl) (wd hw 6 rfl) (by decide) pd_21 rfl rfl (rest := []) rfl (Nat.le_of_eq rfl) (cells' := 6) (slots' := 14) rfl rfl (by decide) (by decide) ?_
      rintro T30 h30 _ W30 z30 ⟨r30, rfl, E30, S30⟩
      refine Go.astore W30.cx d_code_68 (L' := #[.val (.int i0), .val (.int i1), .val (.int i2), .val (.int i3), .val (.int i4), .val (.int i5), .val (.int (Int32.ofNat 0)), .val (.int v0), .val (.int y26), .val (.int y27), .val (.int y28), .val (.int y29), .val (.ref r30), .unset, .unset, .unset, .unset, .unset, .unset, .unset]) rfl rfl ?_
      refine Go.new W30 d_code_70 (wd hw 29 rfl) (wd hw 30 rfl) (wd hw 31 rfl) (cells' := 7) (slots' := 16) rfl rfl (by decide) (by decide) ?_
      intro T31 h31 a31 g31 W31 E31 A31 D31
      have Fn31 := D31 (Or.inr (wd hw 43 rfl)) (t := (.object "java/lang/String")) (by decide)
      have Fv31 := D31 (Or.inr (wd hw 45 rfl)) (t := (.object "java/lang/String")) (by decide)
      refine Go.dup W31.cx d_code_73 rfl ?_
      refine Go.ldcS W31 (fun q => q) d_code_74 (wd hw 32 rfl) (wS hw) (by decide) (cs := [110]) ⟨by decide, by decide +kernel⟩ (by decide) (by decide) (nn := 4) (by decide) (by decide) (cells' := 9) (slots' := 24) rfl rfl (by decide) (by decide) ?_
      intro T32 h32 l32 b32 kb32 W32 E32 A32 C32 V32 B32 X32 S32
      refine Go.aload W32.cx d_code_76 (v := (.ref r30)) rfl rfl ?_
      refine Go.invi W32 (Ctr.call (wt := 1) (c_pi l Z a0 hw hE W32.old (W32.mine (by simp)).1 (A31.ext E32) (Fn31.ext E32) (Fv31.ext E32)) W32.ew (wd hw 35 rfl) (wd hw 31 rfl) (by simp) (by decide) (by decide)) d_code_78 rfl (wd hw 33 rfl) (wd hw 34 rfl) (wd hw 35 rfl) (by decide) pd_22 rfl rfl (rest := [(.ref a31)]) rfl (Nat.le_of_eq rfl) (cells' := 9) (slots' := 24) rfl rfl (by decide) (by decide) ?_
      rintro T33 h33 W33 z33 ⟨K33, X33, P33⟩
      have Q33 : Ext h30 h33 := ext_keep (ext_trans E31 E32) K33 (all1 (Nat.le_of_eq g31.symm))
      have Sv := S30.ext Q33
      refine Go.invv1 W33 (Ctr.call (wt := 0) (c_unq l Z a0 hw hE W33.old hG P33 Sv (Nat.le_of_ble_eq_true rfl)) W33.ew (wd hw 50 rfl) (wd hw 31 rfl) (by simp) (by decide) (by decide)) d_code_81 (wd hw 46 rfl) (wd hw 47 rfl) (wd hw 49 rfl) (wd hw 48 rfl) (by decide) X33 pd_18 rfl rfl (rest := []) rfl (Nat.le_of_eq rfl) (cells' := 15) (slots' := 64) rfl rfl (by decide) (by decide) ?_
      rintro T34 h34 _ W34 z34 ⟨r34, us, rfl, E34, S34, H34⟩
      have Sw_ := Sv.ext E34
      refine Go.astore W34.cx d_code_84 (L' := #[.val (.int i0), .val (.int i1), .val (.int i2), .val (.int i3), .val (.int i4), .val (.int i5), .val (.int (Int32.ofNat 0)), .val (.int v0), .val (.int y26), .val (.int y27), .val (.int y28), .val (.int y29), .val (.ref r30), .val (.ref r34), .unset, .unset, .unset, .unset, .unset, .unset]) rfl rfl ?_
      refine Go.iload W34.cx d_code_86 (v := (Int32.ofNat 0)) rfl ?_
      refine Go.ifeq W34.cx d_code_88 (by decide) (q := 98) rfl (fun _ => ?_) (fun hh => (by first | exact absurd (by decide : Int32.ofNat 0 = 0) hh | exact absurd hh (by decide : Int32.ofNat 0 = 0)))
      refine Go.aload W34.cx d_code_98 (v := (.ref r30)) rfl rfl ?_
      refine Go.aload W34.cx d_code_100 (v := (.ref r34)) rfl rfl ?_
      have hus : us = ([] : List Int32) := H34.elim (fun z => z.2) (fun z => absurd z.1 sw0)
      refine Go.invv1 W34 (strEq (wt := 0) W34.ew hw hG Sw_ S34 (by decide) (by decide)) d_code_102 (wd hw 73 rfl) (wd hw 74 rfl) (wd hw 76 rfl) (wd hw 75 rfl) (by decide) Sw_.exa pd_23 rfl rfl (rest := []) rfl (Nat.le_of_eq rfl) (cells' := 15) (slots' := 64) rfl rfl (by decide) (by decide) ?_
      rintro T35 h35 _ W35 z35 ⟨rfl, e35⟩
      subst e35
      refine Go.top (show _ = (1 : Int32) from if_pos hus.symm) ?_
      exact Go.iret W35 d_code_105 (by simp) rfl (by decide) (by decide) ⟨_, rfl, rfl⟩
    · refine Go.invs1 W29 (Ctr.call (wt := 0) (c_str1 l Z a0 hw hE W29.old hG (c0 := v0) (c1 := y26) (c2 := y27) (c3 := y28) (c4 := y29) rg0) W29.ew (wd hw 6 rfl) (wd hw 2 rfl) (by simp) (by decide) (by decide)) d_code_65 (wd hw 4 rfl) (wd hw 5 rfl) (wd hw 2 rfl) (wd hw 6 rfl) (by decide) pd_21 rfl rfl (rest := []) rfl (Nat.le_of_eq rfl) (cells' := 6) (slots' := 14) rfl rfl (by decide) (by decide) ?_
      rintro T36 h36 _ W36 z36 ⟨r36, rfl, E36, S36⟩
      refine Go.astore W36.cx d_code_68 (L' := #[.val (.int i0), .val (.int i1), .val (.int i2), .val (.int i3), .val (.int i4), .val (.int i5), .val (.int (Int32.ofNat 1)), .val (.int v0), .val (.int y26), .val (.int y27), .val (.int y28), .val (.int y29), .val (.ref r36), .unset, .unset, .unset, .unset, .unset, .unset, .unset]) rfl rfl ?_
      refine Go.new W36 d_code_70 (wd hw 29 rfl) (wd hw 30 rfl) (wd hw 31 rfl) (cells' := 7) (slots' := 16) rfl rfl (by decide) (by decide) ?_
      intro T37 h37 a37 g37 W37 E37 A37 D37
      have Fn37 := D37 (Or.inr (wd hw 43 rfl)) (t := (.object "java/lang/String")) (by decide)
      have Fv37 := D37 (Or.inr (wd hw 45 rfl)) (t := (.object "java/lang/String")) (by decide)
      refine Go.dup W37.cx d_code_73 rfl ?_
      refine Go.ldcS W37 (fun q => q) d_code_74 (wd hw 32 rfl) (wS hw) (by decide) (cs := [110]) ⟨by decide, by decide +kernel⟩ (by decide) (by decide) (nn := 4) (by decide) (by decide) (cells' := 9) (slots' := 24) rfl rfl (by decide) (by decide) ?_
      intro T38 h38 l38 b38 kb38 W38 E38 A38 C38 V38 B38 X38 S38
      refine Go.aload W38.cx d_code_76 (v := (.ref r36)) rfl rfl ?_
      refine Go.invi W38 (Ctr.call (wt := 1) (c_pi l Z a0 hw hE W38.old (W38.mine (by simp)).1 (A37.ext E38) (Fn37.ext E38) (Fv37.ext E38)) W38.ew (wd hw 35 rfl) (wd hw 31 rfl) (by simp) (by decide) (by decide)) d_code_78 rfl (wd hw 33 rfl) (wd hw 34 rfl) (wd hw 35 rfl) (by decide) pd_22 rfl rfl (rest := [(.ref a37)]) rfl (Nat.le_of_eq rfl) (cells' := 9) (slots' := 24) rfl rfl (by decide) (by decide) ?_
      rintro T39 h39 W39 z39 ⟨K39, X39, P39⟩
      have Q39 : Ext h36 h39 := ext_keep (ext_trans E37 E38) K39 (all1 (Nat.le_of_eq g37.symm))
      have Sv := S36.ext Q39
      refine Go.invv1 W39 (Ctr.call (wt := 0) (c_unq l Z a0 hw hE W39.old hG P39 Sv (Nat.le_of_ble_eq_true rfl)) W39.ew (wd hw 50 rfl) (wd hw 31 rfl) (by simp) (by decide) (by decide)) d_code_81 (wd hw 46 rfl) (wd hw 47 rfl) (wd hw 49 rfl) (wd hw 48 rfl) (by decide) X39 pd_18 rfl rfl (rest := []) rfl (Nat.le_of_eq rfl) (cells' := 15) (slots' := 64) rfl rfl (by decide) (by decide) ?_
      rintro T40 h40 _ W40 z40 ⟨r40, us, rfl, E40, S40, H40⟩
      have Sw_ := Sv.ext E40
      refine Go.astore W40.cx d_code_84 (L' := #[.val (.int i0), .val (.int i1), .val (.int i2), .val (.int i3), .val (.int i4), .val (.int i5), .val (.int (Int32.ofNat 1)), .val (.int v0), .val (.int y26), .val (.int y27), .val (.int y28), .val (.int y29), .val (.ref r36), .val (.ref r40), .unset, .unset, .unset, .unset, .unset, .unset]) rfl rfl ?_
      refine Go.iload W40.cx d_code_86 (v := (Int32.ofNat 1)) rfl ?_
      refine Go.ifeq W40.cx d_code_88 (by decide) (q := 98) rfl (fun hh => (by first | exact absurd (by decide : ¬ Int32.ofNat 1 = 0) hh | exact absurd hh (by decide : ¬ Int32.ofNat 1 = 0))) (fun _ => ?_)
      refine Go.iload W40.cx d_code_91 (v := v0) rfl ?_
      refine Go.bipush W40.cx d_code_93 (z := (34 : Int32)) rfl ?_
      refine Go.iceq W40.cx d_code_95 (by decide) (q := 106) rfl (fun hq => ?_) (fun hq => ?_)
      · have hus : us = ue false ([] : List Int32) := H40.elim (fun z => absurd (sw34.mpr hq) z.1) (fun z => z.2)
        refine Go.iload W40.cx d_code_106 (v := (Int32.ofNat 1)) rfl ?_
        refine Go.iconst W40.cx d_code_108 (z := (2 : Int32)) rfl ?_
        refine Go.isub W40.cx d_code_109 ?_
        refine Go.top (show _ = (-1 : Int32) from by decide) ?_
        refine Go.iconst W40.cx d_code_110 (z := (0 : Int32)) rfl ?_
        refine Go.invs1 W40 (Ctr.call (wt := 0) (c_max0 l Z a0 hw hE W40.old (-1 : Int32)) W40.ew (wd hw 204 rfl) (wd hw 196 rfl) (by simp) (by decide) (by decide)) d_code_111 (wd hw 202 rfl) (wd hw 203 rfl) (wd hw 196 rfl) (wd hw 204 rfl) (by decide) pd_10 rfl rfl (rest := []) rfl (Nat.le_of_eq rfl) (cells' := 15) (slots' := 64) rfl rfl (by decide) (by decide) ?_
        rintro T41 h41 _ W41 z41 ⟨rfl, e41⟩
        subst e41
        refine Go.top (show _ = (0 : Int32) from by decide) ?_
        refine Go.istore W41.cx d_code_114 (L' := #[.val (.int i0), .val (.int i1), .val (.int i2), .val (.int i3), .val (.int i4), .val (.int i5), .val (.int (Int32.ofNat 1)), .val (.int v0), .val (.int y26), .val (.int y27), .val (.int y28), .val (.int y29), .val (.ref r36), .val (.ref r40), .val (.int (0 : Int32)), .unset, .unset, .unset, .unset, .unset]) rfl ?_
        refine Go.iconst W41.cx d_code_116 (z := (3 : Int32)) rfl ?_
        refine Go.newarr W41 d_code_117 (wd hw 10 rfl) (z := (3 : Int32)) (cap := 3) (by decide) (by decide) (by decide) (cells' := 16) (slots' := 67) rfl rfl (by decide) (by decide) ?_
        intro T42 h42 a42 ka42 g42 W42 E42 A42
        have V42 : CArr Z h42 a42 ka42 [0, 0, 0] := CArr.of_new A42 (k := 3) rfl rfl
        have Xu42 := E42
        refine Go.astore W42.cx d_code_119 (L' := #[.val (.int i0), .val (.int i1), .val (.int i2), .val (.int i3), .val (.int i4), .val (.int i5), .val (.int (Int32.ofNat 1)), .val (.int v0), .val (.int y26), .val (.int y27), .val (.int y28), .val (.int y29), .val (.ref r36), .val (.ref r40), .val (.int (0 : Int32)), .val (.ref a42), .unset, .unset, .unset, .unset]) rfl rfl ?_
        refine Go.iconst W42.cx d_code_121 (z := (0 : Int32)) rfl ?_
        refine Go.istore W42.cx d_code_122 (L' := #[.val (.int i0), .val (.int i1), .val (.int i2), .val (.int i3), .val (.int i4), .val (.int i5), .val (.int (Int32.ofNat 1)), .val (.int v0), .val (.int y26), .val (.int y27), .val (.int y28), .val (.int y29), .val (.ref r36), .val (.ref r40), .val (.int (0 : Int32)), .val (.ref a42), .val (.int (0 : Int32)), .unset, .unset, .unset]) rfl ?_
        refine Go.iload W42.cx d_code_124 (v := y26) rfl ?_
        refine Go.istore W42.cx d_code_126 (L' := #[.val (.int i0), .val (.int i1), .val (.int i2), .val (.int i3), .val (.int i4), .val (.int i5), .val (.int (Int32.ofNat 1)), .val (.int v0), .val (.int y26), .val (.int y27), .val (.int y28), .val (.int y29), .val (.ref r36), .val (.ref r40), .val (.int (0 : Int32)), .val (.ref a42), .val (.int (0 : Int32)), .val (.int y26), .unset, .unset]) rfl ?_
        refine Go.iload W42.cx d_code_128 (v := y27) rfl ?_
        refine Go.istore W42.cx d_code_130 (L' := #[.val (.int i0), .val (.int i1), .val (.int i2), .val (.int i3), .val (.int i4), .val (.int i5), .val (.int (Int32.ofNat 1)), .val (.int v0), .val (.int y26), .val (.int y27), .val (.int y28), .val (.int y29), .val (.ref r36), .val (.ref r40), .val (.int (0 : Int32)), .val (.ref a42), .val (.int (0 : Int32)), .val (.int y26), .val (.int y27), .unset]) rfl ?_
        refine Go.iload W42.cx d_code_132 (v := y28) rfl ?_
        refine Go.istore W42.cx d_code_134 (L' := #[.val (.int i0), .val (.int i1), .val (.int i2), .val (.int i3), .val (.int i4), .val (.int i5), .val (.int (Int32.ofNat 1)), .val (.int v0), .val (.int y26), .val (.int y27), .val (.int y28), .val (.int y29), .val (.ref r36), .val (.ref r40), .val (.int (0 : Int32)), .val (.ref a42), .val (.int (0 : Int32)), .val (.int y26), .val (.int y27), .val (.int y28)]) rfl ?_
        refine Go.iload W42.cx d_code_136 (v := (0 : Int32)) rfl ?_
        refine Go.iconst W42.cx d_code_138 (z := (1 : Int32)) rfl ?_
        refine Go.icne W42.cx d_code_139 (by decide) (q := 165) rfl (fun _ => ?_) (fun hh => (by first | exact absurd (by decide : ¬ (0 : Int32) = 1) hh | exact absurd hh (by decide : ¬ (0 : Int32) = 1)))
        refine Go.iload W42.cx d_code_165 (v := (0 : Int32)) rfl ?_
        refine Go.iconst W42.cx d_code_167 (z := (2 : Int32)) rfl ?_
        refine Go.icne W42.cx d_code_168 (by decide) (q := 230) rfl (fun _ => ?_) (fun hh => (by first | exact absurd (by decide : ¬ (0 : Int32) = 2) hh | exact absurd hh (by decide : ¬ (0 : Int32) = 2)))
        refine Go.iload W42.cx d_code_230 (v := (0 : Int32)) rfl ?_
        refine Go.iconst W42.cx d_code_232 (z := (3 : Int32)) rfl ?_
        refine Go.icne W42.cx d_code_233 (by decide) (q := 348) rfl (fun _ => ?_) (fun hh => (by first | exact absurd (by decide : ¬ (0 : Int32) = 3) hh | exact absurd hh (by decide : ¬ (0 : Int32) = 3)))
        refine Go.aload W42.cx d_code_348 (v := (.ref r40)) rfl rfl ?_
        refine Go.iload W42.cx d_code_350 (v := (0 : Int32)) rfl ?_
        refine Go.aload W42.cx d_code_352 (v := (.ref a42)) rfl rfl ?_
        refine Go.iconst W42.cx d_code_354 (z := (0 : Int32)) rfl ?_
        refine Go.caload W42 0 d_code_355 V42 rfl (Nat.le_of_ble_eq_true rfl) (Nat.le_of_ble_eq_true rfl) (v := 0) rfl ?_
        refine Go.aload W42.cx d_code_356 (v := (.ref a42)) rfl rfl ?_
        refine Go.iconst W42.cx d_code_358 (z := (1 : Int32)) rfl ?_
        refine Go.caload W42 1 d_code_359 V42 rfl (Nat.le_of_ble_eq_true rfl) (Nat.le_of_ble_eq_true rfl) (v := 0) rfl ?_
        refine Go.aload W42.cx d_code_360 (v := (.ref a42)) rfl rfl ?_
        refine Go.iconst W42.cx d_code_362 (z := (2 : Int32)) rfl ?_
        refine Go.caload W42 2 d_code_363 V42 rfl (Nat.le_of_ble_eq_true rfl) (Nat.le_of_ble_eq_true rfl) (v := 0) rfl ?_
        refine Go.bipush W42.cx d_code_364 (z := (32 : Int32)) rfl ?_
        refine Go.bipush W42.cx d_code_366 (z := (32 : Int32)) rfl ?_
        refine Go.invs1 W42 (Ctr.call (wt := 1) (c_str0 l Z a0 hw hE W42.old hG (c0 := (0 : Int32)) (c1 := (0 : Int32)) (c2 := (0 : Int32)) (c3 := (32 : Int32)) (c4 := (32 : Int32)) ) W42.ew (wd hw 6 rfl) (wd hw 2 rfl) (by simp) (by decide) (by decide)) d_code_368 (wd hw 4 rfl) (wd hw 5 rfl) (wd hw 2 rfl) (wd hw 6 rfl) (by decide) pd_21 rfl rfl (rest := [(.ref r40)]) rfl (Nat.le_of_eq rfl) (cells' := 22) (slots' := 81) rfl rfl (by decide) (by decide) ?_
        rintro T43 h43 _ W43 z43 ⟨r43, rfl, E43, S43⟩
        have Su := (S40.ext Xu42).ext E43
        have hl : us = ([] : List Int32) := by rw [hus]; simp [ue]
        refine Go.invv1 W43 (strEq (wt := 0) W43.ew hw hG Su S43 (by decide) (by decide)) d_code_371 (wd hw 73 rfl) (wd hw 74 rfl) (wd hw 76 rfl) (wd hw 75 rfl) (by decide) Su.exa pd_23 rfl rfl (rest := []) rfl (Nat.le_of_eq rfl) (cells' := 22) (slots' := 81) rfl rfl (by decide) (by decide) ?_
        rintro T44 h44 _ W44 z44 ⟨rfl, e44⟩
        subst e44
        refine Go.top (show _ = (1 : Int32) from if_pos hl) ?_
        exact Go.iret W44 d_code_374 (by simp) rfl (by decide) (by decide) ⟨_, rfl, rfl⟩
      · refine Go.aload W40.cx d_code_98 (v := (.ref r36)) rfl rfl ?_
        refine Go.aload W40.cx d_code_100 (v := (.ref r40)) rfl rfl ?_
        have hus : us = ([v0] : List Int32) := H40.elim (fun z => z.2) (fun z => absurd (sw34.mp z.1) hq)
        refine Go.invv1 W40 (strEq (wt := 0) W40.ew hw hG Sw_ S40 (by decide) (by decide)) d_code_102 (wd hw 73 rfl) (wd hw 74 rfl) (wd hw 76 rfl) (wd hw 75 rfl) (by decide) Sw_.exa pd_23 rfl rfl (rest := []) rfl (Nat.le_of_eq rfl) (cells' := 15) (slots' := 64) rfl rfl (by decide) (by decide) ?_
        rintro T45 h45 _ W45 z45 ⟨rfl, e45⟩
        subst e45
        refine Go.top (show _ = (1 : Int32) from if_pos hus.symm) ?_
        exact Go.iret W45 d_code_105 (by simp) rfl (by decide) (by decide) ⟨_, rfl, rfl⟩
    · refine Go.invs1 W29 (Ctr.call (wt := 0) (c_str2 l Z a0 hw hE W29.old hG (c0 := v0) (c1 := y26) (c2 := y27) (c3 := y28) (c4 := y29) rg0 rg26) W29.ew (wd hw 6 rfl) (wd hw 2 rfl) (by simp) (by decide) (by decide)) d_code_65 (wd hw 4 rfl) (wd hw 5 rfl) (wd hw 2 rfl) (wd hw 6 rfl) (by decide) pd_21 rfl rfl (rest := []) rfl (Nat.le_of_eq rfl) (cells' := 6) (slots' := 14) rfl rfl (by decide) (by decide) ?_
      rintro T46 h46 _ W46 z46 ⟨r46, rfl, E46, S46⟩
      refine Go.astore W46.cx d_code_68 (L' := #[.val (.int i0), .val (.int i1), .val (.int i2), .val (.int i3), .val (.int i4), .val (.int i5), .val (.int (Int32.ofNat 2)), .val (.int v0), .val (.int y26), .val (.int y27), .val (.int y28), .val (.int y29), .val (.ref r46), .unset, .unset, .unset, .unset, .unset, .unset, .unset]) rfl rfl ?_
      refine Go.new W46 d_code_70 (wd hw 29 rfl) (wd hw 30 rfl) (wd hw 31 rfl) (cells' := 7) (slots' := 16) rfl rfl (by decide) (by decide) ?_
      intro T47 h47 a47 g47 W47 E47 A47 D47
      have Fn47 := D47 (Or.inr (wd hw 43 rfl)) (t := (.object "java/lang/String")) (by decide)
      have Fv47 := D47 (Or.inr (wd hw 45 rfl)) (t := (.object "java/lang/String")) (by decide)
      refine Go.dup W47.cx d_code_73 rfl ?_
      refine Go.ldcS W47 (fun q => q) d_code_74 (wd hw 32 rfl) (wS hw) (by decide) (cs := [110]) ⟨by decide, by decide +kernel⟩ (by decide) (by decide) (nn := 4) (by decide) (by decide) (cells' := 9) (slots' := 24) rfl rfl (by decide) (by decide) ?_
      intro T48 h48 l48 b48 kb48 W48 E48 A48 C48 V48 B48 X48 S48
      refine Go.aload W48.cx d_code_76 (v := (.ref r46)) rfl rfl ?_
      refine Go.invi W48 (Ctr.call (wt := 1) (c_pi l Z a0 hw hE W48.old (W48.mine (by simp)).1 (A47.ext E48) (Fn47.ext E48) (Fv47.ext E48)) W48.ew (wd hw 35 rfl) (wd hw 31 rfl) (by simp) (by decide) (by decide)) d_code_78 rfl (wd hw 33 rfl) (wd hw 34 rfl) (wd hw 35 rfl) (by decide) pd_22 rfl rfl (rest := [(.ref a47)]) rfl (Nat.le_of_eq rfl) (cells' := 9) (slots' := 24) rfl rfl (by decide) (by decide) ?_
      rintro T49 h49 W49 z49 ⟨K49, X49, P49⟩
      have Q49 : Ext h46 h49 := ext_keep (ext_trans E47 E48) K49 (all1 (Nat.le_of_eq g47.symm))
      have Sv := S46.ext Q49
      refine Go.invv1 W49 (Ctr.call (wt := 0) (c_unq l Z a0 hw hE W49.old hG P49 Sv (Nat.le_of_ble_eq_true rfl)) W49.ew (wd hw 50 rfl) (wd hw 31 rfl) (by simp) (by decide) (by decide)) d_code_81 (wd hw 46 rfl) (wd hw 47 rfl) (wd hw 49 rfl) (wd hw 48 rfl) (by decide) X49 pd_18 rfl rfl (rest := []) rfl (Nat.le_of_eq rfl) (cells' := 15) (slots' := 64) rfl rfl (by decide) (by decide) ?_
      rintro T50 h50 _ W50 z50 ⟨r50, us, rfl, E50, S50, H50⟩
      have Sw_ := Sv.ext E50
      refine Go.astore W50.cx d_code_84 (L' := #[.val (.int i0), .val (.int i1), .val (.int i2), .val (.int i3), .val (.int i4), .val (.int i5), .val (.int (Int32.ofNat 2)), .val (.int v0), .val (.int y26), .val (.int y27), .val (.int y28), .val (.int y29), .val (.ref r46), .val (.ref r50), .unset, .unset, .unset, .unset, .unset, .unset]) rfl rfl ?_
      refine Go.iload W50.cx d_code_86 (v := (Int32.ofNat 2)) rfl ?_
      refine Go.ifeq W50.cx d_code_88 (by decide) (q := 98) rfl (fun hh => (by first | exact absurd (by decide : ¬ Int32.ofNat 2 = 0) hh | exact absurd hh (by decide : ¬ Int32.ofNat 2 = 0))) (fun _ => ?_)
      refine Go.iload W50.cx d_code_91 (v := v0) rfl ?_
      refine Go.bipush W50.cx d_code_93 (z := (34 : Int32)) rfl ?_
      refine Go.iceq W50.cx d_code_95 (by decide) (q := 106) rfl (fun hq => ?_) (fun hq => ?_)
      · have hus : us = ue false ([] : List Int32) := H50.elim (fun z => absurd (sw34.mpr hq) z.1) (fun z => z.2)
        refine Go.iload W50.cx d_code_106 (v := (Int32.ofNat 2)) rfl ?_
        refine Go.iconst W50.cx d_code_108 (z := (2 : Int32)) rfl ?_
        refine Go.isub W50.cx d_code_109 ?_
        refine Go.top (show _ = (0 : Int32) from by decide) ?_
        refine Go.iconst W50.cx d_code_110 (z := (0 : Int32)) rfl ?_
        refine Go.invs1 W50 (Ctr.call (wt := 0) (c_max0 l Z a0 hw hE W50.old (0 : Int32)) W50.ew (wd hw 204 rfl) (wd hw 196 rfl) (by simp) (by decide) (by decide)) d_code_111 (wd hw 202 rfl) (wd hw 203 rfl) (wd hw 196 rfl) (wd hw 204 rfl) (by decide) pd_10 rfl rfl (rest := []) rfl (Nat.le_of_eq rfl) (cells' := 15) (slots' := 64) rfl rfl (by decide) (by decide) ?_
        rintro T51 h51 _ W51 z51 ⟨rfl, e51⟩
        subst e51
        refine Go.top (show _ = (0 : Int32) from by decide) ?_
        refine Go.istore W51.cx d_code_114 (L' := #[.val (.int i0), .val (.int i1), .val (.int i2), .val (.int i3), .val (.int i4), .val (.int i5), .val (.int (Int32.ofNat 2)), .val (.int v0), .val (.int y26), .val (.int y27), .val (.int y28), .val (.int y29), .val (.ref r46), .val (.ref r50), .val (.int (0 : Int32)), .unset, .unset, .unset, .unset, .unset]) rfl ?_
        refine Go.iconst W51.cx d_code_116 (z := (3 : Int32)) rfl ?_
        refine Go.newarr W51 d_code_117 (wd hw 10 rfl) (z := (3 : Int32)) (cap := 3) (by decide) (by decide) (by decide) (cells' := 16) (slots' := 67) rfl rfl (by decide) (by decide) ?_
        intro T52 h52 a52 ka52 g52 W52 E52 A52
        have V52 : CArr Z h52 a52 ka52 [0, 0, 0] := CArr.of_new A52 (k := 3) rfl rfl
        have Xu52 := E52
        refine Go.astore W52.cx d_code_119 (L' := #[.val (.int i0), .val (.int i1), .val (.int i2), .val (.int i3), .val (.int i4), .val (.int i5), .val (.int (Int32.ofNat 2)), .val (.int v0), .val (.int y26), .val (.int y27), .val (.int y28), .val (.int y29), .val (.ref r46), .val (.ref r50), .val (.int (0 : Int32)), .val (.ref a52), .unset, .unset, .unset, .unset]) rfl rfl ?_
        refine Go.iconst W52.cx d_code_121 (z := (0 : Int32)) rfl ?_
        refine Go.istore W52.cx d_code_122 (L' := #[.val (.int i0), .val (.int i1), .val (.int i2), .val (.int i3), .val (.int i4), .val (.int i5), .val (.int (Int32.ofNat 2)), .val (.int v0), .val (.int y26), .val (.int y27), .val (.int y28), .val (.int y29), .val (.ref r46), .val (.ref r50), .val (.int (0 : Int32)), .val (.ref a52), .val (.int (0 : Int32)), .unset, .unset, .unset]) rfl ?_
        refine Go.iload W52.cx d_code_124 (v := y26) rfl ?_
        refine Go.istore W52.cx d_code_126 (L' := #[.val (.int i0), .val (.int i1), .val (.int i2), .val (.int i3), .val (.int i4), .val (.int i5), .val (.int (Int32.ofNat 2)), .val (.int v0), .val (.int y26), .val (.int y27), .val (.int y28), .val (.int y29), .val (.ref r46), .val (.ref r50), .val (.int (0 : Int32)), .val (.ref a52), .val (.int (0 : Int32)), .val (.int y26), .unset, .unset]) rfl ?_
        refine Go.iload W52.cx d_code_128 (v := y27) rfl ?_
        refine Go.istore W52.cx d_code_130 (L' := #[.val (.int i0), .val (.int i1), .val (.int i2), .val (.int i3), .val (.int i4), .val (.int i5), .val (.int (Int32.ofNat 2)), .val (.int v0), .val (.int y26), .val (.int y27), .val (.int y28), .val (.int y29), .val (.ref r46), .val (.ref r50), .val (.int (0 : Int32)), .val (.ref a52), .val (.int (0 : Int32)), .val (.int y26), .val (.int y27), .unset]) rfl ?_
        refine Go.iload W52.cx d_code_132 (v := y28) rfl ?_
        refine Go.istore W52.cx d_code_134 (L' := #[.val (.int i0), .val (.int i1), .val (.int i2), .val (.int i3), .val (.int i4), .val (.int i5), .val (.int (Int32.ofNat 2)), .val (.int v0), .val (.int y26), .val (.int y27), .val (.int y28), .val (.int y29), .val (.ref r46), .val (.ref r50), .val (.int (0 : Int32)), .val (.ref a52), .val (.int (0 : Int32)), .val (.int y26), .val (.int y27), .val (.int y28)]) rfl ?_
        refine Go.iload W52.cx d_code_136 (v := (0 : Int32)) rfl ?_
        refine Go.iconst W52.cx d_code_138 (z := (1 : Int32)) rfl ?_
        refine Go.icne W52.cx d_code_139 (by decide) (q := 165) rfl (fun _ => ?_) (fun hh => (by first | exact absurd (by decide : ¬ (0 : Int32) = 1) hh | exact absurd hh (by decide : ¬ (0 : Int32) = 1)))
        refine Go.iload W52.cx d_code_165 (v := (0 : Int32)) rfl ?_
        refine Go.iconst W52.cx d_code_167 (z := (2 : Int32)) rfl ?_
        refine Go.icne W52.cx d_code_168 (by decide) (q := 230) rfl (fun _ => ?_) (fun hh => (by first | exact absurd (by decide : ¬ (0 : Int32) = 2) hh | exact absurd hh (by decide : ¬ (0 : Int32) = 2)))
        refine Go.iload W52.cx d_code_230 (v := (0 : Int32)) rfl ?_
        refine Go.iconst W52.cx d_code_232 (z := (3 : Int32)) rfl ?_
        refine Go.icne W52.cx d_code_233 (by decide) (q := 348) rfl (fun _ => ?_) (fun hh => (by first | exact absurd (by decide : ¬ (0 : Int32) = 3) hh | exact absurd hh (by decide : ¬ (0 : Int32) = 3)))
        refine Go.aload W52.cx d_code_348 (v := (.ref r50)) rfl rfl ?_
        refine Go.iload W52.cx d_code_350 (v := (0 : Int32)) rfl ?_
        refine Go.aload W52.cx d_code_352 (v := (.ref a52)) rfl rfl ?_
        refine Go.iconst W52.cx d_code_354 (z := (0 : Int32)) rfl ?_
        refine Go.caload W52 0 d_code_355 V52 rfl (Nat.le_of_ble_eq_true rfl) (Nat.le_of_ble_eq_true rfl) (v := 0) rfl ?_
        refine Go.aload W52.cx d_code_356 (v := (.ref a52)) rfl rfl ?_
        refine Go.iconst W52.cx d_code_358 (z := (1 : Int32)) rfl ?_
        refine Go.caload W52 1 d_code_359 V52 rfl (Nat.le_of_ble_eq_true rfl) (Nat.le_of_ble_eq_true rfl) (v := 0) rfl ?_
        refine Go.aload W52.cx d_code_360 (v := (.ref a52)) rfl rfl ?_
        refine Go.iconst W52.cx d_code_362 (z := (2 : Int32)) rfl ?_
        refine Go.caload W52 2 d_code_363 V52 rfl (Nat.le_of_ble_eq_true rfl) (Nat.le_of_ble_eq_true rfl) (v := 0) rfl ?_
        refine Go.bipush W52.cx d_code_364 (z := (32 : Int32)) rfl ?_
        refine Go.bipush W52.cx d_code_366 (z := (32 : Int32)) rfl ?_
        refine Go.invs1 W52 (Ctr.call (wt := 1) (c_str0 l Z a0 hw hE W52.old hG (c0 := (0 : Int32)) (c1 := (0 : Int32)) (c2 := (0 : Int32)) (c3 := (32 : Int32)) (c4 := (32 : Int32)) ) W52.ew (wd hw 6 rfl) (wd hw 2 rfl) (by simp) (by decide) (by decide)) d_code_368 (wd hw 4 rfl) (wd hw 5 rfl) (wd hw 2 rfl) (wd hw 6 rfl) (by decide) pd_21 rfl rfl (rest := [(.ref r50)]) rfl (Nat.le_of_eq rfl) (cells' := 22) (slots' := 81) rfl rfl (by decide) (by decide) ?_
        rintro T53 h53 _ W53 z53 ⟨r53, rfl, E53, S53⟩
        have Su := (S50.ext Xu52).ext E53
        have hl : us = ([] : List Int32) := by rw [hus]; simp [ue]
        refine Go.invv1 W53 (strEq (wt := 0) W53.ew hw hG Su S53 (by decide) (by decide)) d_code_371 (wd hw 73 rfl) (wd hw 74 rfl) (wd hw 76 rfl) (wd hw 75 rfl) (by decide) Su.exa pd_23 rfl rfl (rest := []) rfl (Nat.le_of_eq rfl) (cells' := 22) (slots' := 81) rfl rfl (by decide) (by decide) ?_
        rintro T54 h54 _ W54 z54 ⟨rfl, e54⟩
        subst e54
        refine Go.top (show _ = (1 : Int32) from if_pos hl) ?_
        exact Go.iret W54 d_code_374 (by simp) rfl (by decide) (by decide) ⟨_, rfl, rfl⟩
      · refine Go.aload W50.cx d_code_98 (v := (.ref r46)) rfl rfl ?_
        refine Go.aload W50.cx d_code_100 (v := (.ref r50)) rfl rfl ?_
        have hus : us = ([v0, y26] : List Int32) := H50.elim (fun z => z.2) (fun z => absurd (sw34.mp z.1) hq)
        refine Go.invv1 W50 (strEq (wt := 0) W50.ew hw hG Sw_ S50 (by decide) (by decide)) d_code_102 (wd hw 73 rfl) (wd hw 74 rfl) (wd hw 76 rfl) (wd hw 75 rfl) (by decide) Sw_.exa pd_23 rfl rfl (rest := []) rfl (Nat.le_of_eq rfl) (cells' := 15) (slots' := 64) rfl rfl (by decide) (by decide) ?_
        rintro T55 h55 _ W55 z55 ⟨rfl, e55⟩
        subst e55
        refine Go.top (show _ = (1 : Int32) from if_pos hus.symm) ?_
        exact Go.iret W55 d_code_105 (by simp) rfl (by decide) (by decide) ⟨_, rfl, rfl⟩
    · refine Go.invs1 W29 (Ctr.call (wt := 0) (c_str3 l Z a0 hw hE W29.old hG (c0 := v0) (c1 := y26) (c2 := y27) (c3 := y28) (c4 := y29) rg0 rg26 rg27) W29.ew (wd hw 6 rfl) (wd hw 2 rfl) (by simp) (by decide) (by decide)) d_code_65 (wd hw 4 rfl) (wd hw 5 rfl) (wd hw 2 rfl) (wd hw 6 rfl) (by decide) pd_21 rfl rfl (rest := []) rfl (Nat.le_of_eq rfl) (cells' := 6) (slots' := 14) rfl rfl (by decide) (by decide) ?_
      rintro T56 h56 _ W56 z56 ⟨r56, rfl, E56, S56⟩
      refine Go.astore W56.cx d_code_68 (L' := #[.val (.int i0), .val (.int i1), .val (.int i2), .val (.int i3), .val (.int i4), .val (.int i5), .val (.int (Int32.ofNat 3)), .val (.int v0), .val (.int y26), .val (.int y27), .val (.int y28), .val (.int y29), .val (.ref r56), .unset, .unset, .unset, .unset, .unset, .unset, .unset]) rfl rfl ?_
      refine Go.new W56 d_code_70 (wd hw 29 rfl) (wd hw 30 rfl) (wd hw 31 rfl) (cells' := 7) (slots' := 16) rfl rfl (by decide) (by decide) ?_
      intro T57 h57 a57 g57 W57 E57 A57 D57
      have Fn57 := D57 (Or.inr (wd hw 43 rfl)) (t := (.object "java/lang/String")) (by decide)
      have Fv57 := D57 (Or.inr (wd hw 45 rfl)) (t := (.object "java/lang/String")) (by decide)
      refine Go.dup W57.cx d_code_73 rfl ?_
      refine Go.ldcS W57 (fun q => q) d_code_74 (wd hw 32 rfl) (wS hw) (by decide) (cs := [110]) ⟨by decide, by decide +kernel⟩ (by decide) (by decide) (nn := 4) (by decide) (by decide) (cells' := 9) (slots' := 24) rfl rfl (by decide) (by decide) ?_
      intro T58 h58 l58 b58 kb58 W58 E58 A58 C58 V58 B58 X58 S58
      refine Go.aload W58.cx d_code_76 (v := (.ref r56)) rfl rfl ?_
      refine Go.invi W58 (Ctr.call (wt := 1) (c_pi l Z a0 hw hE W58.old (W58.mine (by simp)).1 (A57.ext E58) (Fn57.ext E58) (Fv57.ext E58)) W58.ew (wd hw 35 rfl) (wd hw 31 rfl) (by simp) (by decide) (by decide)) d_code_78 rfl (wd hw 33 rfl) (wd hw 34 rfl) (wd hw 35 rfl) (by decide) pd_22 rfl rfl (rest := [(.ref a57)]) rfl (Nat.le_of_eq rfl) (cells' := 9) (slots' := 24) rfl rfl (by decide) (by decide) ?_
      rintro T59 h59 W59 z59 ⟨K59, X59, P59⟩
      have Q59 : Ext h56 h59 := ext_keep (ext_trans E57 E58) K59 (all1 (Nat.le_of_eq g57.symm))
      have Sv := S56.ext Q59
      refine Go.invv1 W59 (Ctr.call (wt := 0) (c_unq l Z a0 hw hE W59.old hG P59 Sv (Nat.le_of_ble_eq_true rfl)) W59.ew (wd hw 50 rfl) (wd hw 31 rfl) (by simp) (by decide) (by decide)) d_code_81 (wd hw 46 rfl) (wd hw 47 rfl) (wd hw 49 rfl) (wd hw 48 rfl) (by decide) X59 pd_18 rfl rfl (rest := []) rfl (Nat.le_of_eq rfl) (cells' := 15) (slots' := 64) rfl rfl (by decide) (by decide) ?_
      rintro T60 h60 _ W60 z60 ⟨r60, us, rfl, E60, S60, H60⟩
      have Sw_ := Sv.ext E60
      refine Go.astore W60.cx d_code_84 (L' := #[.val (.int i0), .val (.int i1), .val (.int i2), .val (.int i3), .val (.int i4), .val (.int i5), .val (.int (Int32.ofNat 3)), .val (.int v0), .val (.int y26), .val (.int y27), .val (.int y28), .val (.int y29), .val (.ref r56), .val (.ref r60), .unset, .unset, .unset, .unset, .unset, .unset]) rfl rfl ?_
      refine Go.iload W60.cx d_code_86 (v := (Int32.ofNat 3)) rfl ?_
      refine Go.ifeq W60.cx d_code_88 (by decide) (q := 98) rfl (fun hh => (by first | exact absurd (by decide : ¬ Int32.ofNat 3 = 0) hh | exact absurd hh (by decide : ¬ Int32.ofNat 3 = 0))) (fun _ => ?_)
      refine Go.iload W60.cx d_code_91 (v := v0) rfl ?_
      refine Go.bipush W60.cx d_code_93 (z := (34 : Int32)) rfl ?_
      refine Go.iceq W60.cx d_code_95 (by decide) (q := 106) rfl (fun hq => ?_) (fun hq => ?_)
      · have hus : us = ue false ([y26] : List Int32) := H60.elim (fun z => absurd (sw34.mpr hq) z.1) (fun z => z.2)
        refine Go.iload W60.cx d_code_106 (v := (Int32.ofNat 3)) rfl ?_
        refine Go.iconst W60.cx d_code_108 (z := (2 : Int32)) rfl ?_
        refine Go.isub W60.cx d_code_109 ?_
        refine Go.top (show _ = (1 : Int32) from by decide) ?_
        refine Go.iconst W60.cx d_code_110 (z := (0 : Int32)) rfl ?_
        refine Go.invs1 W60 (Ctr.call (wt := 0) (c_max0 l Z a0 hw hE W60.old (1 : Int32)) W60.ew (wd hw 204 rfl) (wd hw 196 rfl) (by simp) (by decide) (by decide)) d_code_111 (wd hw 202 rfl) (wd hw 203 rfl) (wd hw 196 rfl) (wd hw 204 rfl) (by decide) pd_10 rfl rfl (rest := []) rfl (Nat.le_of_eq rfl) (cells' := 15) (slots' := 64) rfl rfl (by decide) (by decide) ?_
        rintro T61 h61 _ W61 z61 ⟨rfl, e61⟩
        subst e61
        refine Go.top (show _ = (1 : Int32) from by decide) ?_
        refine Go.istore W61.cx d_code_114 (L' := #[.val (.int i0), .val (.int i1), .val (.int i2), .val (.int i3), .val (.int i4), .val (.int i5), .val (.int (Int32.ofNat 3)), .val (.int v0), .val (.int y26), .val (.int y27), .val (.int y28), .val (.int y29), .val (.ref r56), .val (.ref r60), .val (.int (1 : Int32)), .unset, .unset, .unset, .unset, .unset]) rfl ?_
        refine Go.iconst W61.cx d_code_116 (z := (3 : Int32)) rfl ?_
        refine Go.newarr W61 d_code_117 (wd hw 10 rfl) (z := (3 : Int32)) (cap := 3) (by decide) (by decide) (by decide) (cells' := 16) (slots' := 67) rfl rfl (by decide) (by decide) ?_
        intro T62 h62 a62 ka62 g62 W62 E62 A62
        have V62 : CArr Z h62 a62 ka62 [0, 0, 0] := CArr.of_new A62 (k := 3) rfl rfl
        have Xu62 := E62
        refine Go.astore W62.cx d_code_119 (L' := #[.val (.int i0), .val (.int i1), .val (.int i2), .val (.int i3), .val (.int i4), .val (.int i5), .val (.int (Int32.ofNat 3)), .val (.int v0), .val (.int y26), .val (.int y27), .val (.int y28), .val (.int y29), .val (.ref r56), .val (.ref r60), .val (.int (1 : Int32)), .val (.ref a62), .unset, .unset, .unset, .unset]) rfl rfl ?_
        refine Go.iconst W62.cx d_code_121 (z := (0 : Int32)) rfl ?_
        refine Go.istore W62.cx d_code_122 (L' := #[.val (.int i0), .val (.int i1), .val (.int i2), .val (.int i3), .val (.int i4), .val (.int i5), .val (.int (Int32.ofNat 3)), .val (.int v0), .val (.int y26), .val (.int y27), .val (.int y28), .val (.int y29), .val (.ref r56), .val (.ref r60), .val (.int (1 : Int32)), .val (.ref a62), .val (.int (0 : Int32)), .unset, .unset, .unset]) rfl ?_
        refine Go.iload W62.cx d_code_124 (v := y26) rfl ?_
        refine Go.istore W62.cx d_code_126 (L' := #[.val (.int i0), .val (.int i1), .val (.int i2), .val (.int i3), .val (.int i4), .val (.int i5), .val (.int (Int32.ofNat 3)), .val (.int v0), .val (.int y26), .val (.int y27), .val (.int y28), .val (.int y29), .val (.ref r56), .val (.ref r60), .val (.int (1 : Int32)), .val (.ref a62), .val (.int (0 : Int32)), .val (.int y26), .unset, .unset]) rfl ?_
        refine Go.iload W62.cx d_code_128 (v := y27) rfl ?_
        refine Go.istore W62.cx d_code_130 (L' := #[.val (.int i0), .val (.int i1), .val (.int i2), .val (.int i3), .val (.int i4), .val (.int i5), .val (.int (Int32.ofNat 3)), .val (.int v0), .val (.int y26), .val (.int y27), .val (.int y28), .val (.int y29), .val (.ref r56), .val (.ref r60), .val (.int (1 : Int32)), .val (.ref a62), .val (.int (0 : Int32)), .val (.int y26), .val (.int y27), .unset]) rfl ?_
        refine Go.iload W62.cx d_code_132 (v := y28) rfl ?_
        refine Go.istore W62.cx d_code_134 (L' := #[.val (.int i0), .val (.int i1), .val (.int i2), .val (.int i3), .val (.int i4), .val (.int i5), .val (.int (Int32.ofNat 3)), .val (.int v0), .val (.int y26), .val (.int y27), .val (.int y28), .val (.int y29), .val (.ref r56), .val (.ref r60), .val (.int (1 : Int32)), .val (.ref a62), .val (.int (0 : Int32)), .val (.int y26), .val (.int y27), .val (.int y28)]) rfl ?_
        refine Go.iload W62.cx d_code_136 (v := (1 : Int32)) rfl ?_
        refine Go.iconst W62.cx d_code_138 (z := (1 : Int32)) rfl ?_
        refine Go.icne W62.cx d_code_139 (by decide) (q := 165) rfl (fun hh => (by first | exact absurd (by decide : (1 : Int32) = 1) hh | exact absurd hh (by decide : (1 : Int32) = 1))) (fun _ => ?_)
        refine Go.iload W62.cx d_code_142 (v := y26) rfl ?_
        refine Go.bipush W62.cx d_code_144 (z := (92 : Int32)) rfl ?_
        refine Go.iceq W62.cx d_code_146 (by decide) (q := 348) rfl (fun hx63 => ?_) (fun hx63 => ?_)
        · refine Go.aload W62.cx d_code_348 (v := (.ref r60)) rfl rfl ?_
          refine Go.iload W62.cx d_code_350 (v := (0 : Int32)) rfl ?_
          refine Go.aload W62.cx d_code_352 (v := (.ref a62)) rfl rfl ?_
          refine Go.iconst W62.cx d_code_354 (z := (0 : Int32)) rfl ?_
          refine Go.caload W62 0 d_code_355 V62 rfl (Nat.le_of_ble_eq_true rfl) (Nat.le_of_ble_eq_true rfl) (v := 0) rfl ?_
          refine Go.aload W62.cx d_code_356 (v := (.ref a62)) rfl rfl ?_
          refine Go.iconst W62.cx d_code_358 (z := (1 : Int32)) rfl ?_
          refine Go.caload W62 1 d_code_359 V62 rfl (Nat.le_of_ble_eq_true rfl) (Nat.le_of_ble_eq_true rfl) (v := 0) rfl ?_
          refine Go.aload W62.cx d_code_360 (v := (.ref a62)) rfl rfl ?_
          refine Go.iconst W62.cx d_code_362 (z := (2 : Int32)) rfl ?_
          refine Go.caload W62 2 d_code_363 V62 rfl (Nat.le_of_ble_eq_true rfl) (Nat.le_of_ble_eq_true rfl) (v := 0) rfl ?_
          refine Go.bipush W62.cx d_code_364 (z := (32 : Int32)) rfl ?_
          refine Go.bipush W62.cx d_code_366 (z := (32 : Int32)) rfl ?_
          refine Go.invs1 W62 (Ctr.call (wt := 1) (c_str0 l Z a0 hw hE W62.old hG (c0 := (0 : Int32)) (c1 := (0 : Int32)) (c2 := (0 : Int32)) (c3 := (32 : Int32)) (c4 := (32 : Int32)) ) W62.ew (wd hw 6 rfl) (wd hw 2 rfl) (by simp) (by decide) (by decide)) d_code_368 (wd hw 4 rfl) (wd hw 5 rfl) (wd hw 2 rfl) (wd hw 6 rfl) (by decide) pd_21 rfl rfl (rest := [(.ref r60)]) rfl (Nat.le_of_eq rfl) (cells' := 22) (slots' := 81) rfl rfl (by decide) (by decide) ?_
          rintro T64 h64 _ W64 z64 ⟨r64, rfl, E64, S64⟩
          have Su := (S60.ext Xu62).ext E64
          have hl : us = ([] : List Int32) := by rw [hus]; simp [ue, hx63]
          refine Go.invv1 W64 (strEq (wt := 0) W64.ew hw hG Su S64 (by decide) (by decide)) d_code_371 (wd hw 73 rfl) (wd hw 74 rfl) (wd hw 76 rfl) (wd hw 75 rfl) (by decide) Su.exa pd_23 rfl rfl (rest := []) rfl (Nat.le_of_eq rfl) (cells' := 22) (slots' := 81) rfl rfl (by decide) (by decide) ?_
          rintro T65 h65 _ W65 z65 ⟨rfl, e65⟩
          subst e65
          refine Go.top (show _ = (1 : Int32) from if_pos hl) ?_
          exact Go.iret W65 d_code_374 (by simp) rfl (by decide) (by decide) ⟨_, rfl, rfl⟩
        · refine Go.aload W62.cx d_code_149 (v := (.ref a62)) rfl rfl ?_
          refine Go.iload W62.cx d_code_151 (v := (0 : Int32)) rfl ?_
          refine Go.iload W62.cx d_code_153 (v := y26) rfl ?_
          refine Go.castore W62 0 d_code_155 V62 (by simp) rfl (Nat.le_of_ble_eq_true rfl) (Nat.le_of_ble_eq_true rfl) (x' := y26) (nar_ch rg26) ?_
          intro T66 h66 W66 K66 V66
          have V66 : CArr Z h66 a62 ka62 [y26, 0, 0] := V66
          have Xu66 : Ext h60 h66 := ext_keep Xu62 K66 (all1 (Nat.le_of_eq g62.symm))
          refine Go.iload W66.cx d_code_156 (v := (0 : Int32)) rfl ?_
          refine Go.iconst W66.cx d_code_158 (z := (1 : Int32)) rfl ?_
          refine Go.iadd W66.cx d_code_159 ?_
          refine Go.top (show _ = (1 : Int32) from rfl) ?_
          refine Go.istore W66.cx d_code_160 (L' := #[.val (.int i0), .val (.int i1), .val (.int i2), .val (.int i3), .val (.int i4), .val (.int i5), .val (.int (Int32.ofNat 3)), .val (.int v0), .val (.int y26), .val (.int y27), .val (.int y28), .val (.int y29), .val (.ref r56), .val (.ref r60), .val (.int (1 : Int32)), .val (.ref a62), .val (.int (1 : Int32)), .val (.int y26), .val (.int y27), .val (.int y28)]) rfl ?_
          refine Go.goto W66.cx d_code_162 (by decide) (q := 348) rfl ?_
          refine Go.aload W66.cx d_code_348 (v := (.ref r60)) rfl rfl ?_
          refine Go.iload W66.cx d_code_350 (v := (1 : Int32)) rfl ?_
          refine Go.aload W66.cx d_code_352 (v := (.ref a62)) rfl rfl ?_
          refine Go.iconst W66.cx d_code_354 (z := (0 : Int32)) rfl ?_
          refine Go.caload W66 0 d_code_355 V66 rfl (Nat.le_of_ble_eq_true rfl) (Nat.le_of_ble_eq_true rfl) (v := y26) rfl ?_
          refine Go.aload W66.cx d_code_356 (v := (.ref a62)) rfl rfl ?_
          refine Go.iconst W66.cx d_code_358 (z := (1 : Int32)) rfl ?_
          refine Go.caload W66 1 d_code_359 V66 rfl (Nat.le_of_ble_eq_true rfl) (Nat.le_of_ble_eq_true rfl) (v := 0) rfl ?_
          refine Go.aload W66.cx d_code_360 (v := (.ref a62)) rfl rfl ?_
          refine Go.iconst W66.cx d_code_362 (z := (2 : Int32)) rfl ?_
          refine Go.caload W66 2 d_code_363 V66 rfl (Nat.le_of_ble_eq_true rfl) (Nat.le_of_ble_eq_true rfl) (v := 0) rfl ?_
          refine Go.bipush W66.cx d_code_364 (z := (32 : Int32)) rfl ?_
          refine Go.bipush W66.cx d_code_366 (z := (32 : Int32)) rfl ?_
          refine Go.invs1 W66 (Ctr.call (wt := 1) (c_str1 l Z a0 hw hE W66.old hG (c0 := y26) (c1 := (0 : Int32)) (c2 := (0 : Int32)) (c3 := (32 : Int32)) (c4 := (32 : Int32)) rg26) W66.ew (wd hw 6 rfl) (wd hw 2 rfl) (by simp) (by decide) (by decide)) d_code_368 (wd hw 4 rfl) (wd hw 5 rfl) (wd hw 2 rfl) (wd hw 6 rfl) (by decide) pd_21 rfl rfl (rest := [(.ref r60)]) rfl (Nat.le_of_eq rfl) (cells' := 22) (slots' := 81) rfl rfl (by decide) (by decide) ?_
          rintro T67 h67 _ W67 z67 ⟨r67, rfl, E67, S67⟩
          have Su := (S60.ext Xu66).ext E67
          have hl : us = ([y26] : List Int32) := by rw [hus]; simp [ue, hx63]
          refine Go.invv1 W67 (strEq (wt := 0) W67.ew hw hG Su S67 (by decide) (by decide)) d_code_371 (wd hw 73 rfl) (wd hw 74 rfl) (wd hw 76 rfl) (wd hw 75 rfl) (by decide) Su.exa pd_23 rfl rfl (rest := []) rfl (Nat.le_of_eq rfl) (cells' := 22) (slots' := 81) rfl rfl (by decide) (by decide) ?_
          rintro T68 h68 _ W68 z68 ⟨rfl, e68⟩
          subst e68
          refine Go.top (show _ = (1 : Int32) from if_pos hl) ?_
          exact Go.iret W68 d_code_374 (by simp) rfl (by decide) (by decide) ⟨_, rfl, rfl⟩
      · refine Go.aload W60.cx d_code_98 (v := (.ref r56)) rfl rfl ?_
        refine Go.aload W60.cx d_code_100 (v := (.ref r60)) rfl rfl ?_
        have hus : us = ([v0, y26, y27] : List Int32) := H60.elim (fun z => z.2) (fun z => absurd (sw34.mp z.1) hq)
        refine Go.invv1 W60 (strEq (wt := 0) W60.ew hw hG Sw_ S60 (by decide) (by decide)) d_code_102 (wd hw 73 rfl) (wd hw 74 rfl) (wd hw 76 rfl) (wd hw 75 rfl) (by decide) Sw_.exa pd_23 rfl rfl (rest := []) rfl (Nat.le_of_eq rfl) (cells' := 15) (slots' := 64) rfl rfl (by decide) (by decide) ?_
        rintro T69 h69 _ W69 z69 ⟨rfl, e69⟩
        subst e69
        refine Go.top (show _ = (1 : Int32) from if_pos hus.symm) ?_
        exact Go.iret W69 d_code_105 (by simp) rfl (by decide) (by decide) ⟨_, rfl, rfl⟩
    · refine Go.invs1 W29 (Ctr.call (wt := 0) (c_str4 l Z a0 hw hE W29.old hG (c0 := v0) (c1 := y26) (c2 := y27) (c3 := y28) (c4 := y29) rg0 rg26 rg27 rg28) W29.ew (wd hw 6 rfl) (wd hw 2 rfl) (by simp) (by decide) (by decide)) d_code_65 (wd hw 4 rfl) (wd hw 5 rfl) (wd hw 2 rfl) (wd hw 6 rfl) (by decide) pd_21 rfl rfl (rest := []) rfl (Nat.le_of_eq rfl) (cells' := 6) (slots' := 14) rfl rfl (by decide) (by decide) ?_
      rintro T70 h70 _ W70 z70 ⟨r70, rfl, E70, S70⟩
      refine Go.astore W70.cx d_code_68 (L' := #[.val (.int i0), .val (.int i1), .val (.int i2), .val (.int i3), .val (.int i4), .val (.int i5), .val (.int (Int32.ofNat 4)), .val (.int v0), .val (.int y26), .val (.int y27), .val (.int y28), .val (.int y29), .val (.ref r70), .unset, .unset, .unset, .unset, .unset, .unset, .unset]) rfl rfl ?_
      refine Go.new W70 d_code_70 (wd hw 29 rfl) (wd hw 30 rfl) (wd hw 31 rfl) (cells' := 7) (slots' := 16) rfl rfl (by decide) (by decide) ?_
      intro T71 h71 a71 g71 W71 E71 A71 D71
      have Fn71 := D71 (Or.inr (wd hw 43 rfl)) (t := (.object "java/lang/String")) (by decide)
      have Fv71 := D71 (Or.inr (wd hw 45 rfl)) (t := (.object "java/lang/String")) (by decide)
      refine Go.dup W71.cx d_code_73 rfl ?_
      refine Go.ldcS W71 (fun q => q) d_code_74 (wd hw 32 rfl) (wS hw) (by decide) (cs := [110]) ⟨by decide, by decide +kernel⟩ (by decide) (by decide) (nn := 4) (by decide) (by decide) (cells' := 9) (slots' := 24) rfl rfl (by decide) (by decide) ?_
      intro T72 h72 l72 b72 kb72 W72 E72 A72 C72 V72 B72 X72 S72
      refine Go.aload W72.cx d_code_76 (v := (.ref r70)) rfl rfl ?_
      refine Go.invi W72 (Ctr.call (wt := 1) (c_pi l Z a0 hw hE W72.old (W72.mine (by simp)).1 (A71.ext E72) (Fn71.ext E72) (Fv71.ext E72)) W72.ew (wd hw 35 rfl) (wd hw 31 rfl) (by simp) (by decide) (by decide)) d_code_78 rfl (wd hw 33 rfl) (wd hw 34 rfl) (wd hw 35 rfl) (by decide) pd_22 rfl rfl (rest := [(.ref a71)]) rfl (Nat.le_of_eq rfl) (cells' := 9) (slots' := 24) rfl rfl (by decide) (by decide) ?_
      rintro T73 h73 W73 z73 ⟨K73, X73, P73⟩
      have Q73 : Ext h70 h73 := ext_keep (ext_trans E71 E72) K73 (all1 (Nat.le_of_eq g71.symm))
      have Sv := S70.ext Q73
      refine Go.invv1 W73 (Ctr.call (wt := 0) (c_unq l Z a0 hw hE W73.old hG P73 Sv (Nat.le_of_ble_eq_true rfl)) W73.ew (wd hw 50 rfl) (wd hw 31 rfl) (by simp) (by decide) (by decide)) d_code_81 (wd hw 46 rfl) (wd hw 47 rfl) (wd hw 49 rfl) (wd hw 48 rfl) (by decide) X73 pd_18 rfl rfl (rest := []) rfl (Nat.le_of_eq rfl) (cells' := 15) (slots' := 64) rfl rfl (by decide) (by decide) ?_
      rintro T74 h74 _ W74 z74 ⟨r74, us, rfl, E74, S74, H74⟩
      have Sw_ := Sv.ext E74
      refine Go.astore W74.cx d_code_84 (L' := #[.val (.int i0), .val (.int i1), .val (.int i2), .val (.int i3), .val (.int i4), .val (.int i5), .val (.int (Int32.ofNat 4)), .val (.int v0), .val (.int y26), .val (.int y27), .val (.int y28), .val (.int y29), .val (.ref r70), .val (.ref r74), .unset, .unset, .unset, .unset, .unset, .unset]) rfl rfl ?_
      refine Go.iload W74.cx d_code_86 (v := (Int32.ofNat 4)) rfl ?_
      refine Go.ifeq W74.cx d_code_88 (by decide) (q := 98) rfl (fun hh => (by first | exact absurd (by decide : ¬ Int32.ofNat 4 = 0) hh | exact absurd hh (by decide : ¬ Int32.ofNat 4 = 0))) (fun _ => ?_)
      refine Go.iload W74.cx d_code_91 (v := v0) rfl ?_
      refine Go.bipush W74.cx d_code_93 (z := (34 : Int32)) rfl ?_
      refine Go.iceq W74.cx d_code_95 (by decide) (q := 106) rfl (fun hq => ?_) (fun hq => ?_)
      · have hus : us = ue false ([y26, y27] : List Int32) := H74.elim (fun z => absurd (sw34.mpr hq) z.1) (fun z => z.2)
        refine Go.iload W74.cx d_code_106 (v := (Int32.ofNat 4)) rfl ?_
        refine Go.iconst W74.cx d_code_108 (z := (2 : Int32)) rfl ?_
        refine Go.isub W74.cx d_code_109 ?_
        refine Go.top (show _ = (2 : Int32) from by decide) ?_
        refine Go.iconst W74.cx d_code_110 (z := (0 : Int32)) rfl ?_
        refine Go.invs1 W74 (Ctr.call (wt := 0) (c_max0 l Z a0 hw hE W74.old (2 : Int32)) W74.ew (wd hw 204 rfl) (wd hw 196 rfl) (by simp) (by decide) (by decide)) d_code_111 (wd hw 202 rfl) (wd hw 203 rfl) (wd hw 196 rfl) (wd hw 204 rfl) (by decide) pd_10 rfl rfl (rest := []) rfl (Nat.le_of_eq rfl) (cells' := 15) (slots' := 64) rfl rfl (by decide) (by decide) ?_
        rintro T75 h75 _ W75 z75 ⟨rfl, e75⟩
        subst e75
        refine Go.top (show _ = (2 : Int32) from by decide) ?_
        refine Go.istore W75.cx d_code_114 (L' := #[.val (.int i0), .val (.int i1), .val (.int i2), .val (.int i3), .val (.int i4), .val (.int i5), .val (.int (Int32.ofNat 4)), .val (.int v0), .val (.int y26), .val (.int y27), .val (.int y28), .val (.int y29), .val (.ref r70), .val (.ref r74), .val (.int (2 : Int32)), .unset, .unset, .unset, .unset, .unset]) rfl ?_
        refine Go.iconst W75.cx d_code_116 (z := (3 : Int32)) rfl ?_
        refine Go.newarr W75 d_code_117 (wd hw 10 rfl) (z := (3 : Int32)) (cap := 3) (by decide) (by decide) (by decide) (cells' := 16) (slots' := 67) rfl rfl (by decide) (by decide) ?_
        intro T76 h76 a76 ka76 g76 W76 E76 A76
        have V76 : CArr Z h76 a76 ka76 [0, 0, 0] := CArr.of_new A76 (k := 3) rfl rfl
        have Xu76 := E76
        refine Go.astore W76.cx d_code_119 (L' := #[.val (.int i0), .val (.int i1), .val (.int i2), .val (.int i3), .val (.int i4), .val (.int i5), .val (.int (Int32.ofNat 4)), .val (.int v0), .val (.int y26), .val (.int y27), .val (.int y28), .val (.int y29), .val (.ref r70), .val (.ref r74), .val (.int (2 : Int32)), .val (.ref a76), .unset, .unset, .unset, .unset]) rfl rfl ?_
        refine Go.iconst W76.cx d_code_121 (z := (0 : Int32)) rfl ?_
        refine Go.istore W76.cx d_code_122 (L' := #[.val (.int i0), .val (.int i1), .val (.int i2), .val (.int i3), .val (.int i4), .val (.int i5), .val (.int (Int32.ofNat 4)), .val (.int v0), .val (.int y26), .val (.int y27), .val (.int y28), .val (.int y29), .val (.ref r70), .val (.ref r74), .val (.int (2 : Int32)), .val (.ref a76), .val (.int (0 : Int32)), .unset, .unset, .unset]) rfl ?_
        refine Go.iload W76.cx d_code_124 (v := y26) rfl ?_
        refine Go.istore W76.cx d_code_126 (L' := #[.val (.int i0), .val (.int i1), .val (.int i2), .val (.int i3), .val (.int i4), .val (.int i5), .val (.int (Int32.ofNat 4)), .val (.int v0), .val (.int y26), .val (.int y27), .val (.int y28), .val (.int y29), .val (.ref r70), .val (.ref r74), .val (.int (2 : Int32)), .val (.ref a76), .val (.int (0 : Int32)), .val (.int y26), .unset, .unset]) rfl ?_
        refine Go.iload W76.cx d_code_128 (v := y27) rfl ?_
        refine Go.istore W76.cx d_code_130 (L' := #[.val (.int i0), .val (.int i1), .val (.int i2), .val (.int i3), .val (.int i4), .val (.int i5), .val (.int (Int32.ofNat 4)), .val (.int v0), .val (.int y26), .val (.int y27), .val (.int y28), .val (.int y29), .val (.ref r70), .val (.ref r74), .val (.int (2 : Int32)), .val (.ref a76), .val (.int (0 : Int32)), .val (.int y26), .val (.int y27), .unset]) rfl ?_
        refine Go.iload W76.cx d_code_132 (v := y28) rfl ?_
        refine Go.istore W76.cx d_code_134 (L' := #[.val (.int i0), .val (.int i1), .val (.int i2), .val (.int i3), .val (.int i4), .val (.int i5), .val (.int (Int32.ofNat 4)), .val (.int v0), .val (.int y26), .val (.int y27), .val (.int y28), .val (.int y29), .val (.ref r70), .val (.ref r74), .val (.int (2 : Int32)), .val (.ref a76), .val (.int (0 : Int32)), .val (.int y26), .val (.int y27), .val (.int y28)]) rfl ?_
        refine Go.iload W76.cx d_code_136 (v := (2 : Int32)) rfl ?_
        refine Go.iconst W76.cx d_code_138 (z := (1 : Int32)) rfl ?_
        refine Go.icne W76.cx d_code_139 (by decide) (q := 165) rfl (fun _ => ?_) (fun hh => (by first | exact absurd (by decide : ¬ (2 : Int32) = 1) hh | exact absurd hh (by decide : ¬ (2 : Int32) = 1)))
        refine Go.iload W76.cx d_code_165 (v := (2 : Int32)) rfl ?_
        refine Go.iconst W76.cx d_code_167 (z := (2 : Int32)) rfl ?_
        refine Go.icne W76.cx d_code_168 (by decide) (q := 230) rfl (fun hh => (by first | exact absurd (by decide : (2 : Int32) = 2) hh | exact absurd hh (by decide : (2 : Int32) = 2))) (fun _ => ?_)
        refine Go.iload W76.cx d_code_171 (v := y26) rfl ?_
        refine Go.bipush W76.cx d_code_173 (z := (92 : Int32)) rfl ?_
        refine Go.icne W76.cx d_code_175 (by decide) (q := 194) rfl (fun hx77 => ?_) (fun hx77 => ?_)
        · refine Go.aload W76.cx d_code_194 (v := (.ref a76)) rfl rfl ?_
          refine Go.iload W76.cx d_code_196 (v := (0 : Int32)) rfl ?_
          refine Go.iload W76.cx d_code_198 (v := y26) rfl ?_
          refine Go.castore W76 0 d_code_200 V76 (by simp) rfl (Nat.le_of_ble_eq_true rfl) (Nat.le_of_ble_eq_true rfl) (x' := y26) (nar_ch rg26) ?_
          intro T78 h78 W78 K78 V78
          have V78 : CArr Z h78 a76 ka76 [y26, 0, 0] := V78
          have Xu78 : Ext h74 h78 := ext_keep Xu76 K78 (all1 (Nat.le_of_eq g76.symm))
          refine Go.iload W78.cx d_code_201 (v := (0 : Int32)) rfl ?_
          refine Go.iconst W78.cx d_code_203 (z := (1 : Int32)) rfl ?_
          refine Go.iadd W78.cx d_code_204 ?_
          refine Go.top (show _ = (1 : Int32) from rfl) ?_
          refine Go.istore W78.cx d_code_205 (L' := #[.val (.int i0), .val (.int i1), .val (.int i2), .val (.int i3), .val (.int i4), .val (.int i5), .val (.int (Int32.ofNat 4)), .val (.int v0), .val (.int y26), .val (.int y27), .val (.int y28), .val (.int y29), .val (.ref r70), .val (.ref r74), .val (.int (2 : Int32)), .val (.ref a76), .val (.int (1 : Int32)), .val (.int y26), .val (.int y27), .val (.int y28)]) rfl ?_
          refine Go.iload W78.cx d_code_207 (v := y27) rfl ?_
          refine Go.bipush W78.cx d_code_209 (z := (92 : Int32)) rfl ?_
          refine Go.iceq W78.cx d_code_211 (by decide) (q := 348) rfl (fun hx79 => ?_) (fun hx79 => ?_)
          · refine Go.aload W78.cx d_code_348 (v := (.ref r74)) rfl rfl ?_
            refine Go.iload W78.cx d_code_350 (v := (1 : Int32)) rfl ?_
            refine Go.aload W78.cx d_code_352 (v := (.ref a76)) rfl rfl ?_
            refine Go.iconst W78.cx d_code_354 (z := (0 : Int32)) rfl ?_
            refine Go.caload W78 0 d_code_355 V78 rfl (Nat.le_of_ble_eq_true rfl) (Nat.le_of_ble_eq_true rfl) (v := y26) rfl ?_
            refine Go.aload W78.cx d_code_356 (v := (.ref a76)) rfl rfl ?_
            refine Go.iconst W78.cx d_code_358 (z := (1 : Int32)) rfl ?_
            refine Go.caload W78 1 d_code_359 V78 rfl (Nat.le_of_ble_eq_true rfl) (Nat.le_of_ble_eq_true rfl) (v := 0) rfl ?_
            refine Go.aload W78.cx d_code_360 (v := (.ref a76)) rfl rfl ?_
            refine Go.iconst W78.cx d_code_362 (z := (2 : Int32)) rfl ?_
            refine Go.caload W78 2 d_code_363 V78 rfl (Nat.le_of_ble_eq_true rfl) (Nat.le_of_ble_eq_true rfl) (v := 0) rfl ?_
            refine Go.bipush W78.cx d_code_364 (z := (32 : Int32)) rfl ?_
            refine Go.bipush W78.cx d_code_366 (z := (32 : Int32)) rfl ?_
            refine Go.invs1 W78 (Ctr.call (wt := 1) (c_str1 l Z a0 hw hE W78.old hG (c0 := y26) (c1 := (0 : Int32)) (c2 := (0 : Int32)) (c3 := (32 : Int32)) (c4 := (32 : Int32)) rg26) W78.ew (wd hw 6 rfl) (wd hw 2 rfl) (by simp) (by decide) (by decide)) d_code_368 (wd hw 4 rfl) (wd hw 5 rfl) (wd hw 2 rfl) (wd hw 6 rfl) (by decide) pd_21 rfl rfl (rest := [(.ref r74)]) rfl (Nat.le_of_eq rfl) (cells' := 22) (slots' := 81) rfl rfl (by decide) (by decide) ?_
            rintro T80 h80 _ W80 z80 ⟨r80, rfl, E80, S80⟩
            have Su := (S74.ext Xu78).ext E80
            have hl : us = ([y26] : List Int32) := by rw [hus]; simp [ue, hx77, hx79]
            refine Go.invv1 W80 (strEq (wt := 0) W80.ew hw hG Su S80 (by decide) (by decide)) d_code_371 (wd hw 73 rfl) (wd hw 74 rfl) (wd hw 76 rfl) (wd hw 75 rfl) (by decide) Su.exa pd_23 rfl rfl (rest := []) rfl (Nat.le_of_eq rfl) (cells' := 22) (slots' := 81) rfl rfl (by decide) (by decide) ?_
            rintro T81 h81 _ W81 z81 ⟨rfl, e81⟩
            subst e81
            refine Go.top (show _ = (1 : Int32) from if_pos hl) ?_
            exact Go.iret W81 d_code_374 (by simp) rfl (by decide) (by decide) ⟨_, rfl, rfl⟩
          · refine Go.aload W78.cx d_code_214 (v := (.ref a76)) rfl rfl ?_
            refine Go.iload W78.cx d_code_216 (v := (1 : Int32)) rfl ?_
            refine Go.iload W78.cx d_code_218 (v := y27) rfl ?_
            refine Go.castore W78 1 d_code_220 V78 (by simp) rfl (Nat.le_of_ble_eq_true rfl) (Nat.le_of_ble_eq_true rfl) (x' := y27) (nar_ch rg27) ?_
            intro T82 h82 W82 K82 V82
            have V82 : CArr Z h82 a76 ka76 [y26, y27, 0] := V82
            have Xu82 : Ext h74 h82 := ext_keep Xu78 K82 (all1 (Nat.le_of_eq g76.symm))
            refine Go.iload W82.cx d_code_221 (v := (1 : Int32)) rfl ?_
            refine Go.iconst W82.cx d_code_223 (z := (1 : Int32)) rfl ?_
            refine Go.iadd W82.cx d_code_224 ?_
            refine Go.top (show _ = (2 : Int32) from rfl) ?_
            refine Go.istore W82.cx d_code_225 (L' := #[.val (.int i0), .val (.int i1), .val (.int i2), .val (.int i3), .val (.int i4), .val (.int i5), .val (.int (Int32.ofNat 4)), .val (.int v0), .val (.int y26), .val (.int y27), .val (.int y28), .val (.int y29), .val (.ref r70), .val (.ref r74), .val (.int (2 : Int32)), .val (.ref a76), .val (.int (2 : Int32)), .val (.int y26), .val (.int y27), .val (.int y28)]) rfl ?_
            refine Go.goto W82.cx d_code_227 (by decide) (q := 348) rfl ?_
            refine Go.aload W82.cx d_code_348 (v := (.ref r74)) rfl rfl ?_
            refine Go.iload W82.cx d_code_350 (v := (2 : Int32)) rfl ?_
            refine Go.aload W82.cx d_code_352 (v := (.ref a76)) rfl rfl ?_
            refine Go.iconst W82.cx d_code_354 (z := (0 : Int32)) rfl ?_
            refine Go.caload W82 0 d_code_355 V82 rfl (Nat.le_of_ble_eq_true rfl) (Nat.le_of_ble_eq_true rfl) (v := y26) rfl ?_
            refine Go.aload W82.cx d_code_356 (v := (.ref a76)) rfl rfl ?_
            refine Go.iconst W82.cx d_code_358 (z := (1 : Int32)) rfl ?_
            refine Go.caload W82 1 d_code_359 V82 rfl (Nat.le_of_ble_eq_true rfl) (Nat.le_of_ble_eq_true rfl) (v := y27) rfl ?_
            refine Go.aload W82.cx d_code_360 (v := (.ref a76)) rfl rfl ?_
            refine Go.iconst W82.cx d_code_362 (z := (2 : Int32)) rfl ?_
            refine Go.caload W82 2 d_code_363 V82 rfl (Nat.le_of_ble_eq_true rfl) (Nat.le_of_ble_eq_true rfl) (v := 0) rfl ?_
            refine Go.bipush W82.cx d_code_364 (z := (32 : Int32)) rfl ?_
            refine Go.bipush W82.cx d_code_366 (z := (32 : Int32)) rfl ?_
            refine Go.invs1 W82 (Ctr.call (wt := 1) (c_str2 l Z a0 hw hE W82.old hG (c0 := y26) (c1 := y27) (c2 := (0 : Int32)) (c3 := (32 : Int32)) (c4 := (32 : Int32)) rg26 rg27) W82.ew (wd hw 6 rfl) (wd hw 2 rfl) (by simp) (by decide) (by decide)) d_code_368 (wd hw 4 rfl) (wd hw 5 rfl) (wd hw 2 rfl) (wd hw 6 rfl) (by decide) pd_21 rfl rfl (rest := [(.ref r74)]) rfl (Nat.le_of_eq rfl) (cells' := 22) (slots' := 81) rfl rfl (by decide) (by decide) ?_
            rintro T83 h83 _ W83 z83 ⟨r83, rfl, E83, S83⟩
            have Su := (S74.ext Xu82).ext E83
            have hl : us = ([y26, y27] : List Int32) := by rw [hus]; simp [ue, hx77, hx79]
            refine Go.invv1 W83 (strEq (wt := 0) W83.ew hw hG Su S83 (by decide) (by decide)) d_code_371 (wd hw 73 rfl) (wd hw 74 rfl) (wd hw 76 rfl) (wd hw 75 rfl) (by decide) Su.exa pd_23 rfl rfl (rest := []) rfl (Nat.le_of_eq rfl) (cells' := 22) (slots' := 81) rfl rfl (by decide) (by decide) ?_
            rintro T84 h84 _ W84 z84 ⟨rfl, e84⟩
            subst e84
            refine Go.top (show _ = (1 : Int32) from if_pos hl) ?_
            exact Go.iret W84 d_code_374 (by simp) rfl (by decide) (by decide) ⟨_, rfl, rfl⟩
        · refine Go.aload W76.cx d_code_178 (v := (.ref a76)) rfl rfl ?_
          refine Go.iload W76.cx d_code_180 (v := (0 : Int32)) rfl ?_
          refine Go.iload W76.cx d_code_182 (v := y27) rfl ?_
          refine Go.castore W76 0 d_code_184 V76 (by simp) rfl (Nat.le_of_ble_eq_true rfl) (Nat.le_of_ble_eq_true rfl) (x' := y27) (nar_ch rg27) ?_
          intro T85 h85 W85 K85 V85
          have V85 : CArr Z h85 a76 ka76 [y27, 0, 0] := V85
          have Xu85 : Ext h74 h85 := ext_keep Xu76 K85 (all1 (Nat.le_of_eq g76.symm))
          refine Go.iload W85.cx d_code_185 (v := (0 : Int32)) rfl ?_
          refine Go.iconst W85.cx d_code_187 (z := (1 : Int32)) rfl ?_
          refine Go.iadd W85.cx d_code_188 ?_
          refine Go.top (show _ = (1 : Int32) from rfl) ?_
          refine Go.istore W85.cx d_code_189 (L' := #[.val (.int i0), .val (.int i1), .val (.int i2), .val (.int i3), .val (.int i4), .val (.int i5), .val (.int (Int32.ofNat 4)), .val (.int v0), .val (.int y26), .val (.int y27), .val (.int y28), .val (.int y29), .val (.ref r70), .val (.ref r74), .val (.int (2 : Int32)), .val (.ref a76), .val (.int (1 : Int32)), .val (.int y26), .val (.int y27), .val (.int y28)]) rfl ?_
          refine Go.goto W85.cx d_code_191 (by decide) (q := 348) rfl ?_
          refine Go.aload W85.cx d_code_348 (v := (.ref r74)) rfl rfl ?_
          refine Go.iload W85.cx d_code_350 (v := (1 : Int32)) rfl ?_
          refine Go.aload W85.cx d_code_352 (v := (.ref a76)) rfl rfl ?_
          refine Go.iconst W85.cx d_code_354 (z := (0 : Int32)) rfl ?_
          refine Go.caload W85 0 d_code_355 V85 rfl (Nat.le_of_ble_eq_true rfl) (Nat.le_of_ble_eq_true rfl) (v := y27) rfl ?_
          refine Go.aload W85.cx d_code_356 (v := (.ref a76)) rfl rfl ?_
          refine Go.iconst W85.cx d_code_358 (z := (1 : Int32)) rfl ?_
          refine Go.caload W85 1 d_code_359 V85 rfl (Nat.le_of_ble_eq_true rfl) (Nat.le_of_ble_eq_true rfl) (v := 0) rfl ?_
          refine Go.aload W85.cx d_code_360 (v := (.ref a76)) rfl rfl ?_
          refine Go.iconst W85.cx d_code_362 (z := (2 : Int32)) rfl ?_
          refine Go.caload W85 2 d_code_363 V85 rfl (Nat.le_of_ble_eq_true rfl) (Nat.le_of_ble_eq_true rfl) (v := 0) rfl ?_
          refine Go.bipush W85.cx d_code_364 (z := (32 : Int32)) rfl ?_
          refine Go.bipush W85.cx d_code_366 (z := (32 : Int32)) rfl ?_
          refine Go.invs1 W85 (Ctr.call (wt := 1) (c_str1 l Z a0 hw hE W85.old hG (c0 := y27) (c1 := (0 : Int32)) (c2 := (0 : Int32)) (c3 := (32 : Int32)) (c4 := (32 : Int32)) rg27) W85.ew (wd hw 6 rfl) (wd hw 2 rfl) (by simp) (by decide) (by decide)) d_code_368 (wd hw 4 rfl) (wd hw 5 rfl) (wd hw 2 rfl) (wd hw 6 rfl) (by decide) pd_21 rfl rfl (rest := [(.ref r74)]) rfl (Nat.le_of_eq rfl) (cells' := 22) (slots' := 81) rfl rfl (by decide) (by decide) ?_
          rintro T86 h86 _ W86 z86 ⟨r86, rfl, E86, S86⟩
          have Su := (S74.ext Xu85).ext E86
          have hl : us = ([y27] : List Int32) := by rw [hus]; simp [ue, hx77]
          refine Go.invv1 W86 (strEq (wt := 0) W86.ew hw hG Su S86 (by decide) (by decide)) d_code_371 (wd hw 73 rfl) (wd hw 74 rfl) (wd hw 76 rfl) (wd hw 75 rfl) (by decide) Su.exa pd_23 rfl rfl (rest := []) rfl (Nat.le_of_eq rfl) (cells' := 22) (slots' := 81) rfl rfl (by decide) (by decide) ?_
          rintro T87 h87 _ W87 z87 ⟨rfl, e87⟩
          subst e87
          refine Go.top (show _ = (1 : Int32) from if_pos hl) ?_
          exact Go.iret W87 d_code_374 (by simp) rfl (by decide) (by decide) ⟨_, rfl, rfl⟩
      · refine Go.aload W74.cx d_code_98 (v := (.ref r70)) rfl rfl ?_
        refine Go.aload W74.cx d_code_100 (v := (.ref r74)) rfl rfl ?_
        have hus : us = ([v0, y26, y27, y28] : List Int32) := H74.elim (fun z => z.2) (fun z => absurd (sw34.mp z.1) hq)
        refine Go.invv1 W74 (strEq (wt := 0) W74.ew hw hG Sw_ S74 (by decide) (by decide)) d_code_102 (wd hw 73 rfl) (wd hw 74 rfl) (wd hw 76 rfl) (wd hw 75 rfl) (by decide) Sw_.exa pd_23 rfl rfl (rest := []) rfl (Nat.le_of_eq rfl) (cells' := 15) (slots' := 64) rfl rfl (by decide) (by decide) ?_
        rintro T88 h88 _ W88 z88 ⟨rfl, e88⟩
        subst e88
        refine Go.top (show _ = (1 : Int32) from if_pos hus.symm) ?_
        exact Go.iret W88 d_code_105 (by simp) rfl (by decide) (by decide) ⟨_, rfl, rfl⟩
    · refine Go.invs1 W29 (Ctr.call (wt := 0) (c_str5 l Z a0 hw hE W29.old hG (c0 := v0) (c1 := y26) (c2 := y27) (c3 := y28) (c4 := y29) rg0 rg26 rg27 rg28 rg29) W29.ew (wd hw 6 rfl) (wd hw 2 rfl) (by simp) (by decide) (by decide)) d_code_65 (wd hw 4 rfl) (wd hw 5 rfl) (wd hw 2 rfl) (wd hw 6 rfl) (by decide) pd_21 rfl rfl (rest := []) rfl (Nat.le_of_eq rfl) (cells' := 6) (slots' := 14) rfl rfl (by decide) (by decide) ?_
      rintro T89 h89 _ W89 z89 ⟨r89, rfl, E89, S89⟩
      refine Go.astore W89.cx d_code_68 (L' := #[.val (.int i0), .val (.int i1), .val (.int i2), .val (.int i3), .val (.int i4), .val (.int i5), .val (.int (Int32.ofNat 5)), .val (.int v0), .val (.int y26), .val (.int y27), .val (.int y28), .val (.int y29), .val (.ref r89), .unset, .unset, .unset, .unset, .unset, .unset, .unset]) rfl rfl ?_
      refine Go.new W89 d_code_70 (wd hw 29 rfl) (wd hw 30 rfl) (wd hw 31 rfl) (cells' := 7) (slots' := 16) rfl rfl (by decide) (by decide) ?_
      intro T90 h90 a90 g90 W90 E90 A90 D90
      have Fn90 := D90 (Or.inr (wd hw 43 rfl)) (t := (.object "java/lang/String")) (by decide)
      have Fv90 := D90 (Or.inr (wd hw 45 rfl)) (t := (.object "java/lang/String")) (by decide)
      refine Go.dup W90.cx d_code_73 rfl ?_
      refine Go.ldcS W90 (fun q => q) d_code_74 (wd hw 32 rfl) (wS hw) (by decide) (cs := [110]) ⟨by decide, by decide +kernel⟩ (by decide) (by decide) (nn := 4) (by decide) (by decide) (cells' := 9) (slots' := 24) rfl rfl (by decide) (by decide) ?_
      intro T91 h91 l91 b91 kb91 W91 E91 A91 C91 V91 B91 X91 S91
      refine Go.aload W91.cx d_code_76 (v := (.ref r89)) rfl rfl ?_
      refine Go.invi W91 (Ctr.call (wt := 1) (c_pi l Z a0 hw hE W91.old (W91.mine (by simp)).1 (A90.ext E91) (Fn90.ext E91) (Fv90.ext E91)) W91.ew (wd hw 35 rfl) (wd hw 31 rfl) (by simp) (by decide) (by decide)) d_code_78 rfl (wd hw 33 rfl) (wd hw 34 rfl) (wd hw 35 rfl) (by decide) pd_22 rfl rfl (rest := [(.ref a90)]) rfl (Nat.le_of_eq rfl) (cells' := 9) (slots' := 24) rfl rfl (by decide) (by decide) ?_
      rintro T92 h92 W92 z92 ⟨K92, X92, P92⟩
      have Q92 : Ext h89 h92 := ext_keep (ext_trans E90 E91) K92 (all1 (Nat.le_of_eq g90.symm))
      have Sv := S89.ext Q92
      refine Go.invv1 W92 (Ctr.call (wt := 0) (c_unq l Z a0 hw hE W92.old hG P92 Sv (Nat.le_of_ble_eq_true rfl)) W92.ew (wd hw 50 rfl) (wd hw 31 rfl) (by simp) (by decide) (by decide)) d_code_81 (wd hw 46 rfl) (wd hw 47 rfl) (wd hw 49 rfl) (wd hw 48 rfl) (by decide) X92 pd_18 rfl rfl (rest := []) rfl (Nat.le_of_eq rfl) (cells' := 15) (slots' := 64) rfl rfl (by decide) (by decide) ?_
      rintro T93 h93 _ W93 z93 ⟨r93, us, rfl, E93, S93, H93⟩
      have Sw_ := Sv.ext E93
      refine Go.astore W93.cx d_code_84 (L' := #[.val (.int i0), .val (.int i1), .val (.int i2), .val (.int i3), .val (.int i4), .val (.int i5), .val (.int (Int32.ofNat 5)), .val (.int v0), .val (.int y26), .val (.int y27), .val (.int y28), .val (.int y29), .val (.ref r89), .val (.ref r93), .unset, .unset, .unset, .unset, .unset, .unset]) rfl rfl ?_
      refine Go.iload W93.cx d_code_86 (v := (Int32.ofNat 5)) rfl ?_
      refine Go.ifeq W93.cx d_code_88 (by decide) (q := 98) rfl (fun hh => (by first | exact absurd (by decide : ¬ Int32.ofNat 5 = 0) hh | exact absurd hh (by decide : ¬ Int32.ofNat 5 = 0))) (fun _ => ?_)
      refine Go.iload W93.cx d_code_91 (v := v0) rfl ?_
      refine Go.bipush W93.cx d_code_93 (z := (34 : Int32)) rfl ?_
      refine Go.iceq W93.cx d_code_95 (by decide) (q := 106) rfl (fun hq => ?_) (fun hq => ?_)
      · have hus : us = ue false ([y26, y27, y28] : List Int32) := H93.elim (fun z => absurd (sw34.mpr hq) z.1) (fun z => z.2)
        refine Go.iload W93.cx d_code_106 (v := (Int32.ofNat 5)) rfl ?_
        refine Go.iconst W93.cx d_code_108 (z := (2 : Int32)) rfl ?_
        refine Go.isub W93.cx d_code_109 ?_
        refine Go.top (show _ = (3 : Int32) from by decide) ?_
        refine Go.iconst W93.cx d_code_110 (z := (0 : Int32)) rfl ?_
        refine Go.invs1 W93 (Ctr.call (wt := 0) (c_max0 l Z a0 hw hE W93.old (3 : Int32)) W93.ew (wd hw 204 rfl) (wd hw 196 rfl) (by simp) (by decide) (by decide)) d_code_111 (wd hw 202 rfl) (wd hw 203 rfl) (wd hw 196 rfl) (wd hw 204 rfl) (by decide) pd_10 rfl rfl (rest := []) rfl (Nat.le_of_eq rfl) (cells' := 15) (slots' := 64) rfl rfl (by decide) (by decide) ?_
        rintro T94 h94 _ W94 z94 ⟨rfl, e94⟩
        subst e94
        refine Go.top (show _ = (3 : Int32) from by decide) ?_
        refine Go.istore W94.cx d_code_114 (L' := #[.val (.int i0), .val (.int i1), .val (.int i2), .val (.int i3), .val (.int i4), .val (.int i5), .val (.int (Int32.ofNat 5)), .val (.int v0), .val (.int y26), .val (.int y27), .val (.int y28), .val (.int y29), .val (.ref r89), .val (.ref r93), .val (.int (3 : Int32)), .unset, .unset, .unset, .unset, .unset]) rfl ?_
        refine Go.iconst W94.cx d_code_116 (z := (3 : Int32)) rfl ?_
        refine Go.newarr W94 d_code_117 (wd hw 10 rfl) (z := (3 : Int32)) (cap := 3) (by decide) (by decide) (by decide) (cells' := 16) (slots' := 67) rfl rfl (by decide) (by decide) ?_
        intro T95 h95 a95 ka95 g95 W95 E95 A95
        have V95 : CArr Z h95 a95 ka95 [0, 0, 0] := CArr.of_new A95 (k := 3) rfl rfl
        have Xu95 := E95
        refine Go.astore W95.cx d_code_119 (L' := #[.val (.int i0), .val (.int i1), .val (.int i2), .val (.int i3), .val (.int i4), .val (.int i5), .val (.int (Int32.ofNat 5)), .val (.int v0), .val (.int y26), .val (.int y27), .val (.int y28), .val (.int y29), .val (.ref r89), .val (.ref r93), .val (.int (3 : Int32)), .val (.ref a95), .unset, .unset, .unset, .unset]) rfl rfl ?_
        refine Go.iconst W95.cx d_code_121 (z := (0 : Int32)) rfl ?_
        refine Go.istore W95.cx d_code_122 (L' := #[.val (.int i0), .val (.int i1), .val (.int i2), .val (.int i3), .val (.int i4), .val (.int i5), .val (.int (Int32.ofNat 5)), .val (.int v0), .val (.int y26), .val (.int y27), .val (.int y28), .val (.int y29), .val (.ref r89), .val (.ref r93), .val (.int (3 : Int32)), .val (.ref a95), .val (.int (0 : Int32)), .unset, .unset, .unset]) rfl ?_
        refine Go.iload W95.cx d_code_124 (v := y26) rfl ?_
        refine Go.istore W95.cx d_code_126 (L' := #[.val (.int i0), .val (.int i1), .val (.int i2), .val (.int i3), .val (.int i4), .val (.int i5), .val (.int (Int32.ofNat 5)), .val (.int v0), .val (.int y26), .val (.int y27), .val (.int y28), .val (.int y29), .val (.ref r89), .val (.ref r93), .val (.int (3 : Int32)), .val (.ref a95), .val (.int (0 : Int32)), .val (.int y26), .unset, .unset]) rfl ?_
        refine Go.iload W95.cx d_code_128 (v := y27) rfl ?_
        refine Go.istore W95.cx d_code_130 (L' := #[.val (.int i0), .val (.int i1), .val (.int i2), .val (.int i3), .val (.int i4), .val (.int i5), .val (.int (Int32.ofNat 5)), .val (.int v0), .val (.int y26), .val (.int y27), .val (.int y28), .val (.int y29), .val (.ref r89), .val (.ref r93), .val (.int (3 : Int32)), .val (.ref a95), .val (.int (0 : Int32)), .val (.int y26), .val (.int y27), .unset]) rfl ?_
        refine Go.iload W95.cx d_code_132 (v := y28) rfl ?_
        refine Go.istore W95.cx d_code_134 (L' := #[.val (.int i0), .val (.int i1), .val (.int i2), .val (.int i3), .val (.int i4), .val (.int i5), .val (.int (Int32.ofNat 5)), .val (.int v0), .val (.int y26), .val (.int y27), .val (.int y28), .val (.int y29), .val (.ref r89), .val (.ref r93), .val (.int (3 : Int32)), .val (.ref a95), .val (.int (0 : Int32)), .val (.int y26), .val (.int y27), .val (.int y28)]) rfl ?_
        refine Go.iload W95.cx d_code_136 (v := (3 : Int32)) rfl ?_
        refine Go.iconst W95.cx d_code_138 (z := (1 : Int32)) rfl ?_
        refine Go.icne W95.cx d_code_139 (by decide) (q := 165) rfl (fun _ => ?_) (fun hh => (by first | exact absurd (by decide : ¬ (3 : Int32) = 1) hh | exact absurd hh (by decide : ¬ (3 : Int32) = 1)))
        refine Go.iload W95.cx d_code_165 (v := (3 : Int32)) rfl ?_
        refine Go.iconst W95.cx d_code_167 (z := (2 : Int32)) rfl ?_
        refine Go.icne W95.cx d_code_168 (by decide) (q := 230) rfl (fun _ => ?_) (fun hh => (by first | exact absurd (by decide : ¬ (3 : Int32) = 2) hh | exact absurd hh (by decide : ¬ (3 : Int32) = 2)))
        refine Go.iload W95.cx d_code_230 (v := (3 : Int32)) rfl ?_
        refine Go.iconst W95.cx d_code_232 (z := (3 : Int32)) rfl ?_
        refine Go.icne W95.cx d_code_233 (by decide) (q := 348) rfl (fun hh => (by first | exact absurd (by decide : (3 : Int32) = 3) hh | exact absurd hh (by decide : (3 : Int32) = 3))) (fun _ => ?_)
        refine Go.iload W95.cx d_code_236 (v := y26) rfl ?_
        refine Go.bipush W95.cx d_code_238 (z := (92 : Int32)) rfl ?_
        refine Go.icne W95.cx d_code_240 (by decide) (q := 279) rfl (fun hx96 => ?_) (fun hx96 => ?_)
        · refine Go.aload W95.cx d_code_279 (v := (.ref a95)) rfl rfl ?_
          refine Go.iload W95.cx d_code_281 (v := (0 : Int32)) rfl ?_
          refine Go.iload W95.cx d_code_283 (v := y26) rfl ?_
          refine Go.castore W95 0 d_code_285 V95 (by simp) rfl (Nat.le_of_ble_eq_true rfl) (Nat.le_of_ble_eq_true rfl) (x' := y26) (nar_ch rg26) ?_
          intro T97 h97 W97 K97 V97
          have V97 : CArr Z h97 a95 ka95 [y26, 0, 0] := V97
          have Xu97 : Ext h93 h97 := ext_keep Xu95 K97 (all1 (Nat.le_of_eq g95.symm))
          refine Go.iload W97.cx d_code_286 (v := (0 : Int32)) rfl ?_
          refine Go.iconst W97.cx d_code_288 (z := (1 : Int32)) rfl ?_
          refine Go.iadd W97.cx d_code_289 ?_
          refine Go.top (show _ = (1 : Int32) from rfl) ?_
          refine Go.istore W97.cx d_code_290 (L' := #[.val (.int i0), .val (.int i1), .val (.int i2), .val (.int i3), .val (.int i4), .val (.int i5), .val (.int (Int32.ofNat 5)), .val (.int v0), .val (.int y26), .val (.int y27), .val (.int y28), .val (.int y29), .val (.ref r89), .val (.ref r93), .val (.int (3 : Int32)), .val (.ref a95), .val (.int (1 : Int32)), .val (.int y26), .val (.int y27), .val (.int y28)]) rfl ?_
          refine Go.iload W97.cx d_code_292 (v := y27) rfl ?_
          refine Go.bipush W97.cx d_code_294 (z := (92 : Int32)) rfl ?_
          refine Go.icne W97.cx d_code_296 (by decide) (q := 315) rfl (fun hx98 => ?_) (fun hx98 => ?_)
          · refine Go.aload W97.cx d_code_315 (v := (.ref a95)) rfl rfl ?_
            refine Go.iload W97.cx d_code_317 (v := (1 : Int32)) rfl ?_
            refine Go.iload W97.cx d_code_319 (v := y27) rfl ?_
            refine Go.castore W97 1 d_code_321 V97 (by simp) rfl (Nat.le_of_ble_eq_true rfl) (Nat.le_of_ble_eq_true rfl) (x' := y27) (nar_ch rg27) ?_
            intro T99 h99 W99 K99 V99
            have V99 : CArr Z h99 a95 ka95 [y26, y27, 0] := V99
            have Xu99 : Ext h93 h99 := ext_keep Xu97 K99 (all1 (Nat.le_of_eq g95.symm))
            refine Go.iload W99.cx d_code_322 (v := (1 : Int32)) rfl ?_
            refine Go.iconst W99.cx d_code_324 (z := (1 : Int32)) rfl ?_
            refine Go.iadd W99.cx d_code_325 ?_
            refine Go.top (show _ = (2 : Int32) from rfl) ?_
            refine Go.istore W99.cx d_code_326 (L' := #[.val (.int i0), .val (.int i1), .val (.int i2), .val (.int i3), .val (.int i4), .val (.int i5), .val (.int (Int32.ofNat 5)), .val (.int v0), .val (.int y26), .val (.int y27), .val (.int y28), .val (.int y29), .val (.ref r89), .val (.ref r93), .val (.int (3 : Int32)), .val (.ref a95), .val (.int (2 : Int32)), .val (.int y26), .val (.int y27), .val (.int y28)]) rfl ?_
            refine Go.iload W99.cx d_code_328 (v := y28) rfl ?_
            refine Go.bipush W99.cx d_code_330 (z := (92 : Int32)) rfl ?_
            refine Go.iceq W99.cx d_code_332 (by decide) (q := 348) rfl (fun hx100 => ?_) (fun hx100 => ?_)
            · refine Go.aload W99.cx d_code_348 (v := (.ref r93)) rfl rfl ?_
              refine Go.iload W99.cx d_code_350 (v := (2 : Int32)) rfl ?_
              refine Go.aload W99.cx d_code_352 (v := (.ref a95)) rfl rfl ?_
              refine Go.iconst W99.cx d_code_354 (z := (0 : Int32)) rfl ?_
              refine Go.caload W99 0 d_code_355 V99 rfl (Nat.le_of_ble_eq_true rfl) (Nat.le_of_ble_eq_true rfl) (v := y26) rfl ?_
              refine Go.aload W99.cx d_code_356 (v := (.ref a95)) rfl rfl ?_
              refine Go.iconst W99.cx d_code_358 (z := (1 : Int32)) rfl ?_
              refine Go.caload W99 1 d_code_359 V99 rfl (Nat.le_of_ble_eq_true rfl) (Nat.le_of_ble_eq_true rfl) (v := y27) rfl ?_
              refine Go.aload W99.cx d_code_360 (v := (.ref a95)) rfl rfl ?_
              refine Go.iconst W99.cx d_code_362 (z := (2 : Int32)) rfl ?_
              refine Go.caload W99 2 d_code_363 V99 rfl (Nat.le_of_ble_eq_true rfl) (Nat.le_of_ble_eq_true rfl) (v := 0) rfl ?_
              refine Go.bipush W99.cx d_code_364 (z := (32 : Int32)) rfl ?_
              refine Go.bipush W99.cx d_code_366 (z := (32 : Int32)) rfl ?_
              refine Go.invs1 W99 (Ctr.call (wt := 1) (c_str2 l Z a0 hw hE W99.old hG (c0 := y26) (c1 := y27) (c2 := (0 : Int32)) (c3 := (32 : Int32)) (c4 := (32 : Int32)) rg26 rg27) W99.ew (wd hw 6 rfl) (wd hw 2 rfl) (by simp) (by decide) (by decide)) d_code_368 (wd hw 4 rfl) (wd hw 5 rfl) (wd hw 2 rfl) (wd hw 6 rfl) (by decide) pd_21 rfl rfl (rest := [(.ref r93)]) rfl (Nat.le_of_eq rfl) (cells' := 22) (slots' := 81) rfl rfl (by decide) (by decide) ?_
              rintro T101 h101 _ W101 z101 ⟨r101, rfl, E101, S101⟩
              have Su := (S93.ext Xu99).ext E101
              have hl : us = ([y26, y27] : List Int32) := by rw [hus]; simp [ue, hx96, hx98, hx100]
              refine Go.invv1 W101 (strEq (wt := 0) W101.ew hw hG Su S101 (by decide) (by decide)) d_code_371 (wd hw 73 rfl) (wd hw 74 rfl) (wd hw 76 rfl) (wd hw 75 rfl) (by decide) Su.exa pd_23 rfl rfl (rest := []) rfl (Nat.le_of_eq rfl) (cells' := 22) (slots' := 81) rfl rfl (by decide) (by decide) ?_
              rintro T102 h102 _ W102 z102 ⟨rfl, e102⟩
              subst e102
              refine Go.top (show _ = (1 : Int32) from if_pos hl) ?_
              exact Go.iret W102 d_code_374 (by simp) rfl (by decide) (by decide) ⟨_, rfl, rfl⟩
            · refine Go.aload W99.cx d_code_335 (v := (.ref a95)) rfl rfl ?_
              refine Go.iload W99.cx d_code_337 (v := (2 : Int32)) rfl ?_
              refine Go.iload W99.cx d_code_339 (v := y28) rfl ?_
              refine Go.castore W99 2 d_code_341 V99 (by simp) rfl (Nat.le_of_ble_eq_true rfl) (Nat.le_of_ble_eq_true rfl) (x' := y28) (nar_ch rg28) ?_
              intro T103 h103 W103 K103 V103
              have V103 : CArr Z h103 a95 ka95 [y26, y27, y28] := V103
              have Xu103 : Ext h93 h103 := ext_keep Xu99 K103 (all1 (Nat.le_of_eq g95.symm))
              refine Go.iload W103.cx d_code_342 (v := (2 : Int32)) rfl ?_
              refine Go.iconst W103.cx d_code_344 (z := (1 : Int32)) rfl ?_
              refine Go.iadd W103.cx d_code_345 ?_
              refine Go.top (show _ = (3 : Int32) from rfl) ?_
              refine Go.istore W103.cx d_code_346 (L' := #[.val (.int i0), .val (.int i1), .val (.int i2), .val (.int i3), .val (.int i4), .val (.int i5), .val (.int (Int32.ofNat 5)), .val (.int v0), .val (.int y26), .val (.int y27), .val (.int y28), .val (.int y29), .val (.ref r89), .val (.ref r93), .val (.int (3 : Int32)), .val (.ref a95), .val (.int (3 : Int32)), .val (.int y26), .val (.int y27), .val (.int y28)]) rfl ?_
              refine Go.aload W103.cx d_code_348 (v := (.ref r93)) rfl rfl ?_
              refine Go.iload W103.cx d_code_350 (v := (3 : Int32)) rfl ?_
              refine Go.aload W103.cx d_code_352 (v := (.ref a95)) rfl rfl ?_
              refine Go.iconst W103.cx d_code_354 (z := (0 : Int32)) rfl ?_
              refine Go.caload W103 0 d_code_355 V103 rfl (Nat.le_of_ble_eq_true rfl) (Nat.le_of_ble_eq_true rfl) (v := y26) rfl ?_
              refine Go.aload W103.cx d_code_356 (v := (.ref a95)) rfl rfl ?_
              refine Go.iconst W103.cx d_code_358 (z := (1 : Int32)) rfl ?_
              refine Go.caload W103 1 d_code_359 V103 rfl (Nat.le_of_ble_eq_true rfl) (Nat.le_of_ble_eq_true rfl) (v := y27) rfl ?_
              refine Go.aload W103.cx d_code_360 (v := (.ref a95)) rfl rfl ?_
              refine Go.iconst W103.cx d_code_362 (z := (2 : Int32)) rfl ?_
              refine Go.caload W103 2 d_code_363 V103 rfl (Nat.le_of_ble_eq_true rfl) (Nat.le_of_ble_eq_true rfl) (v := y28) rfl ?_
              refine Go.bipush W103.cx d_code_364 (z := (32 : Int32)) rfl ?_
              refine Go.bipush W103.cx d_code_366 (z := (32 : Int32)) rfl ?_
              refine Go.invs1 W103 (Ctr.call (wt := 1) (c_str3 l Z a0 hw hE W103.old hG (c0 := y26) (c1 := y27) (c2 := y28) (c3 := (32 : Int32)) (c4 := (32 : Int32)) rg26 rg27 rg28) W103.ew (wd hw 6 rfl) (wd hw 2 rfl) (by simp) (by decide) (by decide)) d_code_368 (wd hw 4 rfl) (wd hw 5 rfl) (wd hw 2 rfl) (wd hw 6 rfl) (by decide) pd_21 rfl rfl (rest := [(.ref r93)]) rfl (Nat.le_of_eq rfl) (cells' := 22) (slots' := 81) rfl rfl (by decide) (by decide) ?_
              rintro T104 h104 _ W104 z104 ⟨r104, rfl, E104, S104⟩
              have Su := (S93.ext Xu103).ext E104
              have hl : us = ([y26, y27, y28] : List Int32) := by rw [hus]; simp [ue, hx96, hx98, hx100]
              refine Go.invv1 W104 (strEq (wt := 0) W104.ew hw hG Su S104 (by decide) (by decide)) d_code_371 (wd hw 73 rfl) (wd hw 74 rfl) (wd hw 76 rfl) (wd hw 75 rfl) (by decide) Su.exa pd_23 rfl rfl (rest := []) rfl (Nat.le_of_eq rfl) (cells' := 22) (slots' := 81) rfl rfl (by decide) (by decide) ?_
              rintro T105 h105 _ W105 z105 ⟨rfl, e105⟩
              subst e105
              refine Go.top (show _ = (1 : Int32) from if_pos hl) ?_
              exact Go.iret W105 d_code_374 (by simp) rfl (by decide) (by decide) ⟨_, rfl, rfl⟩
          · refine Go.aload W97.cx d_code_299 (v := (.ref a95)) rfl rfl ?_
            refine Go.iload W97.cx d_code_301 (v := (1 : Int32)) rfl ?_
            refine Go.iload W97.cx d_code_303 (v := y28) rfl ?_
            refine Go.castore W97 1 d_code_305 V97 (by simp) rfl (Nat.le_of_ble_eq_true rfl) (Nat.le_of_ble_eq_true rfl) (x' := y28) (nar_ch rg28) ?_
            intro T106 h106 W106 K106 V106
            have V106 : CArr Z h106 a95 ka95 [y26, y28, 0] := V106
            have Xu106 : Ext h93 h106 := ext_keep Xu97 K106 (all1 (Nat.le_of_eq g95.symm))
            refine Go.iload W106.cx d_code_306 (v := (1 : Int32)) rfl ?_
            refine Go.iconst W106.cx d_code_308 (z := (1 : Int32)) rfl ?_
            refine Go.iadd W106.cx d_code_309 ?_
            refine Go.top (show _ = (2 : Int32) from rfl) ?_
            refine Go.istore W106.cx d_code_310 (L' := #[.val (.int i0), .val (.int i1), .val (.int i2), .val (.int i3), .val (.int i4), .val (.int i5), .val (.int (Int32.ofNat 5)), .val (.int v0), .val (.int y26), .val (.int y27), .val (.int y28), .val (.int y29), .val (.ref r89), .val (.ref r93), .val (.int (3 : Int32)), .val (.ref a95), .val (.int (2 : Int32)), .val (.int y26), .val (.int y27), .val (.int y28)]) rfl ?_
            refine Go.goto W106.cx d_code_312 (by decide) (q := 348) rfl ?_
            refine Go.aload W106.cx d_code_348 (v := (.ref r93)) rfl rfl ?_
            refine Go.iload W106.cx d_code_350 (v := (2 : Int32)) rfl ?_
            refine Go.aload W106.cx d_code_352 (v := (.ref a95)) rfl rfl ?_
            refine Go.iconst W106.cx d_code_354 (z := (0 : Int32)) rfl ?_
            refine Go.caload W106 0 d_code_355 V106 rfl (Nat.le_of_ble_eq_true rfl) (Nat.le_of_ble_eq_true rfl) (v := y26) rfl ?_
            refine Go.aload W106.cx d_code_356 (v := (.ref a95)) rfl rfl ?_
            refine Go.iconst W106.cx d_code_358 (z := (1 : Int32)) rfl ?_
            refine Go.caload W106 1 d_code_359 V106 rfl (Nat.le_of_ble_eq_true rfl) (Nat.le_of_ble_eq_true rfl) (v := y28) rfl ?_
            refine Go.aload W106.cx d_code_360 (v := (.ref a95)) rfl rfl ?_
            refine Go.iconst W106.cx d_code_362 (z := (2 : Int32)) rfl ?_
            refine Go.caload W106 2 d_code_363 V106 rfl (Nat.le_of_ble_eq_true rfl) (Nat.le_of_ble_eq_true rfl) (v := 0) rfl ?_
            refine Go.bipush W106.cx d_code_364 (z := (32 : Int32)) rfl ?_
            refine Go.bipush W106.cx d_code_366 (z := (32 : Int32)) rfl ?_
            refine Go.invs1 W106 (Ctr.call (wt := 1) (c_str2 l Z a0 hw hE W106.old hG (c0 := y26) (c1 := y28) (c2 := (0 : Int32)) (c3 := (32 : Int32)) (c4 := (32 : Int32)) rg26 rg28) W106.ew (wd hw 6 rfl) (wd hw 2 rfl) (by simp) (by decide) (by decide)) d_code_368 (wd hw 4 rfl) (wd hw 5 rfl) (wd hw 2 rfl) (wd hw 6 rfl) (by decide) pd_21 rfl rfl (rest := [(.ref r93)]) rfl (Nat.le_of_eq rfl) (cells' := 22) (slots' := 81) rfl rfl (by decide) (by decide) ?_
            rintro T107 h107 _ W107 z107 ⟨r107, rfl, E107, S107⟩
            have Su := (S93.ext Xu106).ext E107
            have hl : us = ([y26, y28] : List Int32) := by rw [hus]; simp [ue, hx96, hx98]
            refine Go.invv1 W107 (strEq (wt := 0) W107.ew hw hG Su S107 (by decide) (by decide)) d_code_371 (wd hw 73 rfl) (wd hw 74 rfl) (wd hw 76 rfl) (wd hw 75 rfl) (by decide) Su.exa pd_23 rfl rfl (rest := []) rfl (Nat.le_of_eq rfl) (cells' := 22) (slots' := 81) rfl rfl (by decide) (by decide) ?_
            rintro T108 h108 _ W108 z108 ⟨rfl, e108⟩
            subst e108
            refine Go.top (show _ = (1 : Int32) from if_pos hl) ?_
            exact Go.iret W108 d_code_374 (by simp) rfl (by decide) (by decide) ⟨_, rfl, rfl⟩
        · refine Go.aload W95.cx d_code_243 (v := (.ref a95)) rfl rfl ?_
          refine Go.iload W95.cx d_code_245 (v := (0 : Int32)) rfl ?_
          refine Go.iload W95.cx d_code_247 (v := y27) rfl ?_
          refine Go.castore W95 0 d_code_249 V95 (by simp) rfl (Nat.le_of_ble_eq_true rfl) (Nat.le_of_ble_eq_true rfl) (x' := y27) (nar_ch rg27) ?_
          intro T109 h109 W109 K109 V109
          have V109 : CArr Z h109 a95 ka95 [y27, 0, 0] := V109
          have Xu109 : Ext h93 h109 := ext_keep Xu95 K109 (all1 (Nat.le_of_eq g95.symm))
          refine Go.iload W109.cx d_code_250 (v := (0 : Int32)) rfl ?_
          refine Go.iconst W109.cx d_code_252 (z := (1 : Int32)) rfl ?_
          refine Go.iadd W109.cx d_code_253 ?_
          refine Go.top (show _ = (1 : Int32) from rfl) ?_
          refine Go.istore W109.cx d_code_254 (L' := #[.val (.int i0), .val (.int i1), .val (.int i2), .val (.int i3), .val (.int i4), .val (.int i5), .val (.int (Int32.ofNat 5)), .val (.int v0), .val (.int y26), .val (.int y27), .val (.int y28), .val (.int y29), .val (.ref r89), .val (.ref r93), .val (.int (3 : Int32)), .val (.ref a95), .val (.int (1 : Int32)), .val (.int y26), .val (.int y27), .val (.int y28)]) rfl ?_
          refine Go.iload W109.cx d_code_256 (v := y28) rfl ?_
          refine Go.bipush W109.cx d_code_258 (z := (92 : Int32)) rfl ?_
          refine Go.iceq W109.cx d_code_260 (by decide) (q := 348) rfl (fun hx110 => ?_) (fun hx110 => ?_)
          · refine Go.aload W109.cx d_code_348 (v := (.ref r93)) rfl rfl ?_
            refine Go.iload W109.cx d_code_350 (v := (1 : Int32)) rfl ?_
            refine Go.aload W109.cx d_code_352 (v := (.ref a95)) rfl rfl ?_
            refine Go.iconst W109.cx d_code_354 (z := (0 : Int32)) rfl ?_
            refine Go.caload W109 0 d_code_355 V109 rfl (Nat.le_of_ble_eq_true rfl) (Nat.le_of_ble_eq_true rfl) (v := y27) rfl ?_
            refine Go.aload W109.cx d_code_356 (v := (.ref a95)) rfl rfl ?_
            refine Go.iconst W109.cx d_code_358 (z := (1 : Int32)) rfl ?_
            refine Go.caload W109 1 d_code_359 V109 rfl (Nat.le_of_ble_eq_true rfl) (Nat.le_of_ble_eq_true rfl) (v := 0) rfl ?_
            refine Go.aload W109.cx d_code_360 (v := (.ref a95)) rfl rfl ?_
            refine Go.iconst W109.cx d_code_362 (z := (2 : Int32)) rfl ?_
            refine Go.caload W109 2 d_code_363 V109 rfl (Nat.le_of_ble_eq_true rfl) (Nat.le_of_ble_eq_true rfl) (v := 0) rfl ?_
            refine Go.bipush W109.cx d_code_364 (z := (32 : Int32)) rfl ?_
            refine Go.bipush W109.cx d_code_366 (z := (32 : Int32)) rfl ?_
            refine Go.invs1 W109 (Ctr.call (wt := 1) (c_str1 l Z a0 hw hE W109.old hG (c0 := y27) (c1 := (0 : Int32)) (c2 := (0 : Int32)) (c3 := (32 : Int32)) (c4 := (32 : Int32)) rg27) W109.ew (wd hw 6 rfl) (wd hw 2 rfl) (by simp) (by decide) (by decide)) d_code_368 (wd hw 4 rfl) (wd hw 5 rfl) (wd hw 2 rfl) (wd hw 6 rfl) (by decide) pd_21 rfl rfl (rest := [(.ref r93)]) rfl (Nat.le_of_eq rfl) (cells' := 22) (slots' := 81) rfl rfl (by decide) (by decide) ?_
            rintro T111 h111 _ W111 z111 ⟨r111, rfl, E111, S111⟩
            have Su := (S93.ext Xu109).ext E111
            have hl : us = ([y27] : List Int32) := by rw [hus]; simp [ue, hx96, hx110]
            refine Go.invv1 W111 (strEq (wt := 0) W111.ew hw hG Su S111 (by decide) (by decide)) d_code_371 (wd hw 73 rfl) (wd hw 74 rfl) (wd hw 76 rfl) (wd hw 75 rfl) (by decide) Su.exa pd_23 rfl rfl (rest := []) rfl (Nat.le_of_eq rfl) (cells' := 22) (slots' := 81) rfl rfl (by decide) (by decide) ?_
            rintro T112 h112 _ W112 z112 ⟨rfl, e112⟩
            subst e112
            refine Go.top (show _ = (1 : Int32) from if_pos hl) ?_
            exact Go.iret W112 d_code_374 (by simp) rfl (by decide) (by decide) ⟨_, rfl, rfl⟩
          · refine Go.aload W109.cx d_code_263 (v := (.ref a95)) rfl rfl ?_
            refine Go.iload W109.cx d_code_265 (v := (1 : Int32)) rfl ?_
            refine Go.iload W109.cx d_code_267 (v := y28) rfl ?_
            refine Go.castore W109 1 d_code_269 V109 (by simp) rfl (Nat.le_of_ble_eq_true rfl) (Nat.le_of_ble_eq_true rfl) (x' := y28) (nar_ch rg28) ?_
            intro T113 h113 W113 K113 V113
            have V113 : CArr Z h113 a95 ka95 [y27, y28, 0] := V113
            have Xu113 : Ext h93 h113 := ext_keep Xu109 K113 (all1 (Nat.le_of_eq g95.symm))
            refine Go.iload W113.cx d_code_270 (v := (1 : Int32)) rfl ?_
            refine Go.iconst W113.cx d_code_272 (z := (1 : Int32)) rfl ?_
            refine Go.iadd W113.cx d_code_273 ?_
            refine Go.top (show _ = (2 : Int32) from rfl) ?_
            refine Go.istore W113.cx d_code_274 (L' := #[.val (.int i0), .val (.int i1), .val (.int i2), .val (.int i3), .val (.int i4), .val (.int i5), .val (.int (Int32.ofNat 5)), .val (.int v0), .val (.int y26), .val (.int y27), .val (.int y28), .val (.int y29), .val (.ref r89), .val (.ref r93), .val (.int (3 : Int32)), .val (.ref a95), .val (.int (2 : Int32)), .val (.int y26), .val (.int y27), .val (.int y28)]) rfl ?_
            refine Go.goto W113.cx d_code_276 (by decide) (q := 348) rfl ?_
            refine Go.aload W113.cx d_code_348 (v := (.ref r93)) rfl rfl ?_
            refine Go.iload W113.cx d_code_350 (v := (2 : Int32)) rfl ?_
            refine Go.aload W113.cx d_code_352 (v := (.ref a95)) rfl rfl ?_
            refine Go.iconst W113.cx d_code_354 (z := (0 : Int32)) rfl ?_
            refine Go.caload W113 0 d_code_355 V113 rfl (Nat.le_of_ble_eq_true rfl) (Nat.le_of_ble_eq_true rfl) (v := y27) rfl ?_
            refine Go.aload W113.cx d_code_356 (v := (.ref a95)) rfl rfl ?_
            refine Go.iconst W113.cx d_code_358 (z := (1 : Int32)) rfl ?_
            refine Go.caload W113 1 d_code_359 V113 rfl (Nat.le_of_ble_eq_true rfl) (Nat.le_of_ble_eq_true rfl) (v := y28) rfl ?_
            refine Go.aload W113.cx d_code_360 (v := (.ref a95)) rfl rfl ?_
            refine Go.iconst W113.cx d_code_362 (z := (2 : Int32)) rfl ?_
            refine Go.caload W113 2 d_code_363 V113 rfl (Nat.le_of_ble_eq_true rfl) (Nat.le_of_ble_eq_true rfl) (v := 0) rfl ?_
            refine Go.bipush W113.cx d_code_364 (z := (32 : Int32)) rfl ?_
            refine Go.bipush W113.cx d_code_366 (z := (32 : Int32)) rfl ?_
            refine Go.invs1 W113 (Ctr.call (wt := 1) (c_str2 l Z a0 hw hE W113.old hG (c0 := y27) (c1 := y28) (c2 := (0 : Int32)) (c3 := (32 : Int32)) (c4 := (32 : Int32)) rg27 rg28) W113.ew (wd hw 6 rfl) (wd hw 2 rfl) (by simp) (by decide) (by decide)) d_code_368 (wd hw 4 rfl) (wd hw 5 rfl) (wd hw 2 rfl) (wd hw 6 rfl) (by decide) pd_21 rfl rfl (rest := [(.ref r93)]) rfl (Nat.le_of_eq rfl) (cells' := 22) (slots' := 81) rfl rfl (by decide) (by decide) ?_
            rintro T114 h114 _ W114 z114 ⟨r114, rfl, E114, S114⟩
            have Su := (S93.ext Xu113).ext E114
            have hl : us = ([y27, y28] : List Int32) := by rw [hus]; simp [ue, hx96, hx110]
            refine Go.invv1 W114 (strEq (wt := 0) W114.ew hw hG Su S114 (by decide) (by decide)) d_code_371 (wd hw 73 rfl) (wd hw 74 rfl) (wd hw 76 rfl) (wd hw 75 rfl) (by decide) Su.exa pd_23 rfl rfl (rest := []) rfl (Nat.le_of_eq rfl) (cells' := 22) (slots' := 81) rfl rfl (by decide) (by decide) ?_
            rintro T115 h115 _ W115 z115 ⟨rfl, e115⟩
            subst e115
            refine Go.top (show _ = (1 : Int32) from if_pos hl) ?_
            exact Go.iret W115 d_code_374 (by simp) rfl (by decide) (by decide) ⟨_, rfl, rfl⟩
      · refine Go.aload W93.cx d_code_98 (v := (.ref r89)) rfl rfl ?_
        refine Go.aload W93.cx d_code_100 (v := (.ref r93)) rfl rfl ?_
        have hus : us = ([v0, y26, y27, y28, y29] : List Int32) := H93.elim (fun z => z.2) (fun z => absurd (sw34.mp z.1) hq)
        refine Go.invv1 W93 (strEq (wt := 0) W93.ew hw hG Sw_ S93 (by decide) (by decide)) d_code_102 (wd hw 73 rfl) (wd hw 74 rfl) (wd hw 76 rfl) (wd hw 75 rfl) (by decide) Sw_.exa pd_23 rfl rfl (rest := []) rfl (Nat.le_of_eq rfl) (cells' := 15) (slots' := 64) rfl rfl (by decide) (by decide) ?_
        rintro T116 h116 _ W116 z116 ⟨rfl, e116⟩
        subst e116
        refine Go.top (show _ = (1 : Int32) from if_pos hus.symm) ?_
        exact Go.iret W116 d_code_105 (by simp) rfl (by decide) (by decide) ⟨_, rfl, rfl⟩
  refine Go.ifeq W0.cx d_code_13 (by decide) (q := 21) rfl (fun c0 => ?_) (fun c0 => ?_)
  · refine Go.iload_n W0.cx d_code_21 (v := i1) rfl ?_
    refine Go.invs1 W0 (Ctr.call (wt := 0) (c_ch l Z a0 hw hE W0.old i1) W0.ew (wd hw 3 rfl) (wd hw 2 rfl) (by simp) (by decide) (by decide)) d_code_22 (wd hw 0 rfl) (wd hw 1 rfl) (wd hw 2 rfl) (wd hw 3 rfl) (by decide) pd_19 rfl rfl (rest := []) rfl (Nat.le_of_eq rfl) (cells' := 0) (slots' := 0) rfl rfl (by decide) (by decide) ?_
    rintro T1 h1 _ W1 z1 ⟨y1, rfl, rg1, e1⟩
    subst e1
    exact J25 _ _ W1 rg1
  · refine Go.bipush W0.cx d_code_16 (z := (34 : Int32)) rfl ?_
    refine Go.goto W0.cx d_code_18 (by decide) (q := 25) rfl ?_
    exact J25 _ _ W0 (by decide)
set_option maxRecDepth 65536 in
set_option maxHeartbeats 40000000 in
theorem comes_1 {Post : Tables → Env → Array Value → State → Outcome → State → Prop} (hpost : ∀ tb e args s v u, (limb_1_1.after args s (.returned v) u = true ∧ limb_1_2.after args s (.returned v) u = true ∧ True) → ReturnedEndW s (.returned v) u (Jvm.fieldLocs frame_1_writes args s ++ Jvm.arrayLocs frame_1_arrays args s ++ Jvm.staticLocs frame_1_statics s) 40 3264 → Post tb e args s (.returned v) u) :
    ArmFor flags0 classFile x code maxLocals ret World_1 tables_1 room_1 Calls_1 rest_1 Pre_1 Post := by
  intro l hfl _ _ p e ha hc hk s m args below hf hA hF happ hP
  obtain ⟨hcalls, hrest, hpre⟩ := hP
  obtain ⟨-, -, -, hnamed, -, -, -, hat⟩ := (Spec.applies_iff hf).mp happ
  obtain ⟨hg, hn⟩ := and_e (Cond.before_iff.mp (show (Jvm.Cond.and given_1 narrow_1).before args s = true from hpre))
  obtain ⟨hcnt, hgv⟩ := and_e hg
  obtain ⟨g0, r0⟩ := and_e hgv
  obtain ⟨g1, r1⟩ := and_e r0
  obtain ⟨g2, r2⟩ := and_e r1
  obtain ⟨g3, r3⟩ := and_e r2
  obtain ⟨g4, r4⟩ := and_e r3
  obtain ⟨w0, w1, w2, w3, w4, w5, rfl⟩ : ∃ w0 w1 w2 w3 w4 w5 : Value, args = #[w0, w1, w2, w3, w4, w5] := by
    have hs : args.size = 6 := by simpa [Cond.value, given_1] using hcnt
    obtain ⟨L⟩ := args
    match L, hs with
    | [w0, w1, w2, w3, w4, w5], _ => exact ⟨w0, w1, w2, w3, w4, w5, rfl⟩
  have hw := fun d (hd : d ∈ tables_1) => atoms_spec (ws := Jvm.Cond.code x code maxLocals ret :: tables_1) hat d (List.mem_cons_of_mem _ hd)
  obtain ⟨hsets, hown0⟩ := atoms_of _ (rest_1_c_eq ▸ (show rest_1_c.before _ s = true from hrest))
  have hr0 := Cond.before_iff.mp hown0
  obtain ⟨i0, e0⟩ := is_v g0
  obtain rfl : w0 = (.int i0) := Option.some.inj e0
  obtain ⟨i1, e1⟩ := is_v g1
  obtain rfl : w1 = (.int i1) := Option.some.inj e1
  obtain ⟨i2, e2⟩ := is_v g2
  obtain rfl : w2 = (.int i2) := Option.some.inj e2
  obtain ⟨i3, e3⟩ := is_v g3
  obtain rfl : w3 = (.int i3) := Option.some.inj e3
  obtain ⟨i4, e4⟩ := is_v g4
  obtain rfl : w4 = (.int i4) := Option.some.inj e4
  obtain ⟨i5, e5⟩ := is_v r4
  obtain rfl : w5 = (.int i5) := Option.some.inj e5
  have n5 := not_v (Cond.before_iff.mp (hsets _ (List.mem_of_getElem? (i := 2) rfl)))
  obtain ⟨i11, e10⟩ := is_v (Cond.before_iff.mp (hsets _ (List.mem_of_getElem? (i := 1) rfl)))
  have S12 : Sta s s.heap "java/lang/String" "COMPACT_STRINGS" "Z" (.int i11) := Sta.start e10 (Or.inl (hsets _ (List.mem_of_getElem? (i := 0) rfl)))
  obtain ⟨v13, e14, r15⟩ := isR_v (Cond.before_iff.mp (hsets _ (List.mem_of_getElem? (i := 8) rfl)))
  have S16 : Sta s s.heap "jdk/internal/util/Preconditions" "SIOOBE_FORMATTER" "Ljava/util/function/BiFunction;" v13 := Sta.start e14 (Or.inl (hsets _ (List.mem_of_getElem? (i := 7) rfl)))
  have c17 : ¬ (i11 = (0 : Int32)) := gotF (Cond.eq_ints e10 (Term.int_eval (0))) n5
  have hG : Gl s := ⟨⟨i11, S12, c17⟩, v13, S16, r15⟩
  have hE : EW s #[.int i0, .int i1, .int i2, .int i3, .int i4, .int i5] EL0 := EW.cons (wd hw 51 rfl) (by decide) (EW.cons (wd hw 32 rfl) (by decide) (EW.cons (wd hw 21 rfl) (by decide) (EW.nil)))
  have hCH : CHv s EL0 s.vm s.heap := CHv.start hE (fun q hq => hcalls.1 q hq) (hsets _ (List.mem_of_getElem? (i := 2) rfl)) (wd hw 22 rfl) (wd hw 8 rfl)
  obtain ⟨n, o, h1, h2, h3, v, L, rfl, ⟨w, rfl, rfl⟩, N, -, -, ⟨r1, r2, r3, r4⟩, hnw⟩ := c_law l s _ hw hE (Old.start s) hG i0 i1 i2 i3 i4 i5 tables_1 p e ha hc hk s m _ below hf ((Spec.applies_iff_loose hf).mp happ).1 ⟨rfl, rfl, State.Warmed39.refl s, hCH, fun _ q => nomatch q⟩ trivial
  exact ⟨n, _, h1, h2, h3, hpost _ _ _ _ _ _ ⟨Cond.after_iff.mpr rfl, Cond.after_iff.mpr (eq_i res_at (Term.int_eval (1)) rfl), trivial⟩ ⟨r1, r2, r3, (r4.sift fun y hy => Or.inr (N y hy)).mono (by decide) (by decide)⟩⟩
theorem main_1_1 : Claimed_1_1 := comes_1 fun _ _ _ _ _ _ h hF => ⟨h.1, hF⟩
theorem main_1_2 : Claimed_1_2 := comes_1 fun _ _ _ _ _ _ h hF => ⟨h.2.1, hF⟩
end Jvm.Pilot.@@N@@
namespace Jvm.Pilot.@@N@@
open Jvm Jvm.ClassFile Sem Op Lib Jvm.Free Jvm.Stand Jvm.Pilot.@@N@@.Jvm.D
/-! MADE BY PROGRAM (witnessworld.py) out of the Statement's table words and the real class files: 27 classes; the members and pool entries that the words name. The judged class is class 1, her method 3. -/
namespace start1
open Jvm.ClassFile
def u (s : String) : CpInfo := .utf8 (stringToUtf16 s)
/-- a pool by its gaps: so many unusable entries, then the entry; so many at the end -/
def gap : Nat → List CpInfo → List CpInfo
  | 0, r => r
  | n + 1, r => .unusable :: gap n r
def poolList (es : List (Nat × CpInfo)) (last : Nat) : List CpInfo := es.foldr (fun e r => gap e.1 (e.2 :: r)) (gap last [])
def pool (es : List (Nat × CpInfo)) (last : Nat) : Array CpInfo := ⟨poolList es last⟩
def fileOf (pool : Array CpInfo) (this : Nat) (attrs : Array Attribute := #[]) (ms : Array MethodInfo := #[]) (fl : Nat := 33) (sup : Nat := 0) (ifs : Array Nat := #[]) (fds : Array FieldInfo := #[]) : ClassFile where
  minorVersion := 0
  majorVersion := 65
  constantPool := pool
  accessFlags := fl
  thisClass := this
  superClass := sup
  interfaces := ifs
  fields := fds
  methods := ms
  attributes := attrs
def plain (name : String) (sup : Option ClassId) : Class where
  name := name
  kind := .ordinary
  loader := none
  accessFlags := 33
  super := sup
  interfaces := #[]
  cf := none
  fields := #[]
  methods := #[]
  instanceTypes := #[]
  staticTypes := #[]
  resolved := #[]
  callSites := []
  init := .initialized
  statics := none
  mirror := none

def pool0 : Array CpInfo := pool [(5, u "<init>"), (0, u "()V"), (1, .class_ 10), (1, u "java/lang/Object")] 113

def k0c0 : Code := { maxStack := 0, maxLocals := 1, code := object_method_1_code, exceptionTable := #[], attributes := #[] }
def k0m0 : Method := { name := "<init>", desc := "()V", sig := { parameters := [], returnType := none }, accessFlags := 1, code := some k0c0 }
/-- java/lang/Object -/
def k0 : Class := { plain "java/lang/Object" none with
  accessFlags := 33
  interfaces := #[]
  cf := some (fileOf pool0 8 #[] #[{ accessFlags := 1, nameIndex := 5, descriptorIndex := 6, attributes := #[] }] 33 0 #[] #[])
  fields := #[]
  methods := #[k0m0]
  instanceTypes := #[]
  staticTypes := #[]
  resolved := Array.replicate 124 none
  statics := none }

def pool1 : Array CpInfo := pool [(2, .class_ 4), (1, u "java/lang/Object"), (0, u "<init>"), (0, u "()V"), (0, .class_ 8), (0, u "java/lang/String"), (0, .methodref 7 10), (0, .nameAndType 5 11), (0, u "([C)V"), (0, .methodref 13 14), (0, .class_ 15), (0, .nameAndType 16 17), (0, u "com/example/wheal/wheal/ParameterUnquotedPinLaw"), (0, u "ch"), (0, u "(I)C"), (0, .methodref 13 19), (0, .nameAndType 20 21), (0, u "str"), (0, u "(ICCCCC)Ljava/lang/String;"), (0, .class_ 23), (0, u "com/example/wheal/wheal/FieldValues$Parameter"), (0, .string 25), (0, u "n"), (0, .methodref 22 27), (0, .nameAndType 5 28), (0, u "(Ljava/lang/String;Ljava/lang/String;)V"), (0, .methodref 22 30), (0, .nameAndType 31 32), (0, u "unquoted"), (0, u "()Ljava/lang/String;"), (0, .methodref 7 34), (0, .nameAndType 35 36), (0, u "equals"), (0, u "(Ljava/lang/Object;)Z"), (0, .methodref 38 39), (0, .class_ 40), (0, .nameAndType 41 42), (0, u "java/lang/Math"), (0, u "max"), (0, u "(II)I"), (3, u "law"), (0, u "(IIIIII)Z")] 8

def k1m0 : Method := { name := "<init>", desc := "()V", sig := { parameters := [], returnType := none }, accessFlags := 2, code := none }
def k1c1 : Code := { maxStack := 2, maxLocals := 2, code := method_2_code, exceptionTable := #[], attributes := #[] }
def k1m1 : Method := { name := "ch", desc := "(I)C", sig := { parameters := [.int], returnType := some .char }, accessFlags := 10, code := some k1c1 }
def k1c2 : Code := { maxStack := 6, maxLocals := 6, code := method_3_code, exceptionTable := #[], attributes := #[] }
def k1m2 : Method := { name := "str", desc := "(ICCCCC)Ljava/lang/String;", sig := { parameters := [.int, .char, .char, .char, .char, .char], returnType := some (.object "java/lang/String") }, accessFlags := 10, code := some k1c2 }
def k1c3 : Code := { maxStack := 7, maxLocals := 20, code := code, exceptionTable := #[], attributes := #[] }
def k1m3 : Method := { name := "law", desc := "(IIIIII)Z", sig := { parameters := [.int, .int, .int, .int, .int, .int], returnType := some .boolean }, accessFlags := 9, code := some k1c3 }
/-- com/example/wheal/wheal/ParameterUnquotedPinLaw -/
def k1 : Class := { plain "com/example/wheal/wheal/ParameterUnquotedPinLaw" (some 0) with
  accessFlags := 49
  interfaces := #[]
  cf := some (fileOf pool1 13 #[] #[{ accessFlags := 2, nameIndex := 5, descriptorIndex := 6, attributes := #[] }, { accessFlags := 10, nameIndex := 16, descriptorIndex := 17, attributes := #[] }, { accessFlags := 10, nameIndex := 20, descriptorIndex := 21, attributes := #[] }, { accessFlags := 9, nameIndex := 46, descriptorIndex := 47, attributes := #[] }] 49 2 #[] #[])
  fields := #[]
  methods := #[k1m0, k1m1, k1m2, k1m3]
  instanceTypes := #[]
  staticTypes := #[]
  resolved := Array.replicate 56 none
  statics := none }

def pool2 : Array CpInfo := pool [(1, .class_ 2), (0, u "java/io/Serializable"), (0, .class_ 4), (0, u "java/lang/Object")] 2

/-- java/io/Serializable -/
def k2 : Class := { plain "java/io/Serializable" (some 0) with
  accessFlags := 1537
  interfaces := #[]
  cf := some (fileOf pool2 1 #[] #[] 1537 3 #[] #[])
  fields := #[]
  methods := #[]
  instanceTypes := #[]
  staticTypes := #[]
  resolved := Array.replicate 7 none
  statics := none }

def pool3 : Array CpInfo := pool [(1, .class_ 2), (0, u "java/lang/Comparable"), (0, .class_ 4), (0, u "java/lang/Object")] 7

/-- java/lang/Comparable -/
def k3 : Class := { plain "java/lang/Comparable" (some 0) with
  accessFlags := 1537
  interfaces := #[]
  cf := some (fileOf pool3 1 #[] #[] 1537 3 #[] #[])
  fields := #[]
  methods := #[]
  instanceTypes := #[]
  staticTypes := #[]
  resolved := Array.replicate 12 none
  statics := none }

def pool4 : Array CpInfo := pool [(2, .class_ 4), (1, u "java/lang/CharSequence"), (42, .class_ 48), (0, u "java/lang/CharSequence$1CodePointIterator"), (10, .class_ 60), (0, u "java/lang/CharSequence$1CharIterator"), (5, .class_ 67), (0, u "java/lang/Object")] 63

/-- java/lang/CharSequence -/
def k4 : Class := { plain "java/lang/CharSequence" (some 0) with
  accessFlags := 1537
  interfaces := #[]
  cf := some (fileOf pool4 2 #[.nestMembers #[47, 59]] #[] 1537 66 #[] #[])
  fields := #[]
  methods := #[]
  instanceTypes := #[]
  staticTypes := #[]
  resolved := Array.replicate 131 none
  statics := none }

def pool5 : Array CpInfo := pool [(1, .class_ 2), (0, u "java/lang/constant/Constable"), (0, .class_ 4), (0, u "java/lang/Object")] 6

/-- java/lang/constant/Constable -/
def k5 : Class := { plain "java/lang/constant/Constable" (some 0) with
  accessFlags := 1537
  interfaces := #[]
  cf := some (fileOf pool5 1 #[] #[] 1537 3 #[] #[])
  fields := #[]
  methods := #[]
  instanceTypes := #[]
  staticTypes := #[]
  resolved := Array.replicate 11 none
  statics := none }

def pool6 : Array CpInfo := pool [(1, .class_ 2), (0, u "java/lang/constant/ConstantDesc"), (0, .class_ 4), (0, u "java/lang/Object")] 32

/-- java/lang/constant/ConstantDesc -/
def k6 : Class := { plain "java/lang/constant/ConstantDesc" (some 0) with
  accessFlags := 1537
  interfaces := #[]
  cf := some (fileOf pool6 1 #[] #[] 1537 3 #[] #[])
  fields := #[]
  methods := #[]
  instanceTypes := #[]
  staticTypes := #[]
  resolved := Array.replicate 37 none
  statics := none }

def pool7 : Array CpInfo := pool [(1, .methodref 2 3), (0, .class_ 4), (0, .nameAndType 5 6), (0, u "java/lang/Object"), (0, u "<init>"), (0, u "()V"), (0, .string 8), (0, u ""), (0, .fieldref 10 11), (0, .class_ 12), (0, .nameAndType 13 14), (0, u "java/lang/String"), (0, u "value"), (0, u "[B"), (0, .fieldref 10 16), (0, .nameAndType 17 18), (0, u "coder"), (0, u "B"), (2, u "hash"), (0, u "I"), (2, u "hashIsZero"), (0, u "Z"), (0, .methodref 10 28), (0, .nameAndType 5 29), (0, u "([CIILjava/lang/Void;)V"), (8, .fieldref 10 39), (0, .nameAndType 40 26), (0, u "COMPACT_STRINGS"), (1, .class_ 44), (1, u "java/lang/StringUTF16"), (0, u "compress"), (1, .methodref 42 48), (0, .nameAndType 49 50), (0, u "coderFromArrayLen"), (0, u "([BI)B"), (3, .methodref 55 56), (0, .class_ 57), (0, .nameAndType 58 59), (0, u "java/util/Arrays"), (0, u "copyOfRange"), (0, u "([BII)[B"), (47, .class_ 109), (1, u "java/lang/StringLatin1"), (32, u "()Z"), (34, .methodref 42 178), (0, .nameAndType 45 179), (0, u "([CII)[B"), (154, u "()I"), (0, .methodref 10 336), (0, .nameAndType 17 337), (0, u "()B"), (2, u "()[B"), (22, u "([BI)C"), (12, u "([BI[BII)I"), (14, u "(II)V"), (35, u "(I)C"), (61, .methodref 10 490), (0, .nameAndType 5 491), (0, u "(Ljava/lang/AbstractStringBuilder;Ljava/lang/Void;)V"), (0, .methodref 10 493), (0, .nameAndType 494 142), (0, u "isLatin1"), (0, .methodref 107 496), (0, .nameAndType 497 363), (0, u "charAt"), (3, u "checkIndex"), (3, .methodref 10 506), (0, .nameAndType 507 334), (0, u "length"), (33, .methodref 107 542), (0, .nameAndType 543 544), (0, u "equals"), (0, u "([B[B)Z"), (4, .methodref 550 506), (0, .class_ 551), (0, u "java/lang/AbstractStringBuilder"), (0, .methodref 550 553), (0, .nameAndType 554 340), (0, u "getValue"), (4, .class_ 561), (1, u "jdk/internal/util/ArraysSupport"), (0, u "mismatch"), (10, u "(Ljava/lang/Object;)Z"), (1, .class_ 576), (0, u "java/lang/CharSequence"), (22, u "CASE_INSENSITIVE_ORDER"), (0, u "Ljava/util/Comparator;"), (6, .methodref 559 608), (0, .nameAndType 562 376), (15, .methodref 10 625), (0, .nameAndType 626 627), (0, u "startsWith"), (0, u "(Ljava/lang/String;I)Z"), (382, u "([C)V"), (36, .methodref 550 493), (5, .fieldref 1054 1055), (0, .class_ 1056), (0, .nameAndType 1057 1058), (0, u "jdk/internal/util/Preconditions"), (0, u "SIOOBE_FORMATTER"), (0, u "Ljava/util/function/BiFunction;"), (0, .methodref 1054 1060), (0, .nameAndType 501 1061), (0, u "(IILjava/util/function/BiFunction;)I"), (39, u "serialPersistentFields"), (0, u "[Ljava/io/ObjectStreamField;"), (0, .class_ 1104), (0, u "java/lang/String$CaseInsensitiveComparator"), (1, .class_ 1107), (0, u "java/io/Serializable"), (0, .class_ 1109), (0, u "java/lang/Comparable"), (0, .class_ 1111), (0, u "java/lang/constant/Constable"), (0, .class_ 1113), (0, u "java/lang/constant/ConstantDesc"), (2, u "serialVersionUID"), (0, u "J"), (3, u "REPL"), (0, u "C"), (2, u "LATIN1"), (1, u "UTF16"), (105, u "(Ljava/lang/StringBuilder;)V"), (23, u "(Ljava/lang/String;)Z")] 193

def k7m0 : Method := { name := "<init>", desc := "()V", sig := { parameters := [], returnType := none }, accessFlags := 1, code := none }
def k7c1 : Code := { maxStack := 5, maxLocals := 2, code := jdk_42_method_3_code, exceptionTable := #[], attributes := #[] }
def k7m1 : Method := { name := "<init>", desc := "([C)V", sig := { parameters := [(.array .char)], returnType := none }, accessFlags := 1, code := some k7c1 }
def k7c2 : Code := { maxStack := 3, maxLocals := 2, code := jdk_42_method_53_code, exceptionTable := #[], attributes := #[] }
def k7m2 : Method := { name := "<init>", desc := "(Ljava/lang/StringBuilder;)V", sig := { parameters := [(.object "java/lang/StringBuilder")], returnType := none }, accessFlags := 1, code := some k7c2 }
def k7c3 : Code := { maxStack := 2, maxLocals := 1, code := jdk_42_method_54_code, exceptionTable := #[], attributes := #[] }
def k7m3 : Method := { name := "length", desc := "()I", sig := { parameters := [], returnType := some .int }, accessFlags := 1, code := some k7c3 }
def k7c4 : Code := { maxStack := 2, maxLocals := 2, code := jdk_42_method_56_code, exceptionTable := #[], attributes := #[] }
def k7m4 : Method := { name := "charAt", desc := "(I)C", sig := { parameters := [.int], returnType := some .char }, accessFlags := 1, code := some k7c4 }
def k7c5 : Code := { maxStack := 2, maxLocals := 3, code := jdk_42_method_66_code, exceptionTable := #[], attributes := #[] }
def k7m5 : Method := { name := "equals", desc := "(Ljava/lang/Object;)Z", sig := { parameters := [(.object "java/lang/Object")], returnType := some .boolean }, accessFlags := 1, code := some k7c5 }
def k7c6 : Code := { maxStack := 5, maxLocals := 8, code := jdk_42_method_75_code, exceptionTable := #[], attributes := #[] }
def k7m6 : Method := { name := "startsWith", desc := "(Ljava/lang/String;I)Z", sig := { parameters := [(.object "java/lang/String"), .int], returnType := some .boolean }, accessFlags := 1, code := some k7c6 }
def k7c7 : Code := { maxStack := 3, maxLocals := 2, code := jdk_42_method_76_code, exceptionTable := #[], attributes := #[] }
def k7m7 : Method := { name := "startsWith", desc := "(Ljava/lang/String;)Z", sig := { parameters := [(.object "java/lang/String")], returnType := some .boolean }, accessFlags := 1, code := some k7c7 }
def k7c8 : Code := { maxStack := 4, maxLocals := 6, code := jdk_42_method_149_code, exceptionTable := #[], attributes := #[] }
def k7m8 : Method := { name := "<init>", desc := "([CIILjava/lang/Void;)V", sig := { parameters := [(.array .char), .int, .int, (.object "java/lang/Void")], returnType := none }, accessFlags := 2, code := some k7c8 }
def k7c9 : Code := { maxStack := 5, maxLocals := 5, code := jdk_42_method_150_code, exceptionTable := #[], attributes := #[] }
def k7m9 : Method := { name := "<init>", desc := "(Ljava/lang/AbstractStringBuilder;Ljava/lang/Void;)V", sig := { parameters := [(.object "java/lang/AbstractStringBuilder"), (.object "java/lang/Void")], returnType := none }, accessFlags := 0, code := some k7c9 }
def k7c10 : Code := { maxStack := 1, maxLocals := 1, code := jdk_42_method_152_code, exceptionTable := #[], attributes := #[] }
def k7m10 : Method := { name := "coder", desc := "()B", sig := { parameters := [], returnType := some .byte }, accessFlags := 0, code := some k7c10 }
def k7c11 : Code := { maxStack := 1, maxLocals := 1, code := jdk_42_method_154_code, exceptionTable := #[], attributes := #[] }
def k7m11 : Method := { name := "isLatin1", desc := "()Z", sig := { parameters := [], returnType := some .boolean }, accessFlags := 0, code := some k7c11 }
def k7c12 : Code := { maxStack := 3, maxLocals := 2, code := jdk_42_method_155_code, exceptionTable := #[], attributes := #[] }
def k7m12 : Method := { name := "checkIndex", desc := "(II)V", sig := { parameters := [.int, .int], returnType := none }, accessFlags := 8, code := some k7c12 }
/-- java/lang/String -/
def k7 : Class := { plain "java/lang/String" (some 0) with
  accessFlags := 49
  interfaces := #[2, 3, 4, 5, 6]
  cf := some (fileOf pool7 10 #[.nestMembers #[1103]] #[{ accessFlags := 1, nameIndex := 5, descriptorIndex := 6, attributes := #[] }, { accessFlags := 1, nameIndex := 5, descriptorIndex := 1010, attributes := #[] }, { accessFlags := 1, nameIndex := 5, descriptorIndex := 1233, attributes := #[] }, { accessFlags := 1, nameIndex := 507, descriptorIndex := 334, attributes := #[] }, { accessFlags := 1, nameIndex := 497, descriptorIndex := 427, attributes := #[] }, { accessFlags := 1, nameIndex := 543, descriptorIndex := 573, attributes := #[] }, { accessFlags := 1, nameIndex := 626, descriptorIndex := 627, attributes := #[] }, { accessFlags := 1, nameIndex := 626, descriptorIndex := 1257, attributes := #[] }, { accessFlags := 2, nameIndex := 5, descriptorIndex := 29, attributes := #[] }, { accessFlags := 0, nameIndex := 5, descriptorIndex := 491, attributes := #[] }, { accessFlags := 0, nameIndex := 17, descriptorIndex := 337, attributes := #[] }, { accessFlags := 0, nameIndex := 494, descriptorIndex := 142, attributes := #[] }, { accessFlags := 8, nameIndex := 501, descriptorIndex := 391, attributes := #[] }] 49 2 #[1106, 1108, 575, 1110, 1112] #[{ accessFlags := 18, nameIndex := 13, descriptorIndex := 14, attributes := #[] }, { accessFlags := 18, nameIndex := 17, descriptorIndex := 18, attributes := #[] }, { accessFlags := 2, nameIndex := 21, descriptorIndex := 22, attributes := #[] }, { accessFlags := 2, nameIndex := 25, descriptorIndex := 26, attributes := #[] }, { accessFlags := 26, nameIndex := 1116, descriptorIndex := 1117, attributes := #[] }, { accessFlags := 24, nameIndex := 40, descriptorIndex := 26, attributes := #[] }, { accessFlags := 26, nameIndex := 1101, descriptorIndex := 1102, attributes := #[] }, { accessFlags := 26, nameIndex := 1121, descriptorIndex := 1122, attributes := #[] }, { accessFlags := 25, nameIndex := 599, descriptorIndex := 600, attributes := #[] }, { accessFlags := 24, nameIndex := 1125, descriptorIndex := 18, attributes := #[] }, { accessFlags := 24, nameIndex := 1127, descriptorIndex := 18, attributes := #[] }])
  fields := #[{ name := "value", type := (.array .byte), accessFlags := 18, slot := 0, constantValue := 0 }, { name := "coder", type := .byte, accessFlags := 18, slot := 1, constantValue := 0 }, { name := "hash", type := .int, accessFlags := 2, slot := 2, constantValue := 0 }, { name := "hashIsZero", type := .boolean, accessFlags := 2, slot := 3, constantValue := 0 }, { name := "serialVersionUID", type := .long, accessFlags := 26, slot := 0, constantValue := 0 }, { name := "COMPACT_STRINGS", type := .boolean, accessFlags := 24, slot := 1, constantValue := 0 }, { name := "serialPersistentFields", type := (.array (.object "java/io/ObjectStreamField")), accessFlags := 26, slot := 2, constantValue := 0 }, { name := "REPL", type := .char, accessFlags := 26, slot := 3, constantValue := 0 }, { name := "CASE_INSENSITIVE_ORDER", type := (.object "java/util/Comparator"), accessFlags := 25, slot := 4, constantValue := 0 }, { name := "LATIN1", type := .byte, accessFlags := 24, slot := 5, constantValue := 0 }, { name := "UTF16", type := .byte, accessFlags := 24, slot := 6, constantValue := 0 }]
  methods := #[k7m0, k7m1, k7m2, k7m3, k7m4, k7m5, k7m6, k7m7, k7m8, k7m9, k7m10, k7m11, k7m12]
  instanceTypes := #[(.array .byte), .byte, .int, .boolean]
  staticTypes := #[.long, .boolean, (.array (.object "java/io/ObjectStreamField")), .char, (.object "java/util/Comparator"), .byte, .byte]
  resolved := Array.replicate 1451 none
  statics := some 0 }

def pool8 : Array CpInfo := pool [(1, .methodref 2 3), (0, .class_ 4), (0, .nameAndType 5 6), (0, u "java/lang/Object"), (0, u "<init>"), (0, u "()V"), (0, .class_ 8), (0, u "java/lang/Record")] 13

def k8c0 : Code := { maxStack := 1, maxLocals := 1, code := jdk_30_method_1_code, exceptionTable := #[], attributes := #[] }
def k8m0 : Method := { name := "<init>", desc := "()V", sig := { parameters := [], returnType := none }, accessFlags := 4, code := some k8c0 }
/-- java/lang/Record -/
def k8 : Class := { plain "java/lang/Record" (some 0) with
  accessFlags := 1057
  interfaces := #[]
  cf := some (fileOf pool8 7 #[] #[{ accessFlags := 4, nameIndex := 5, descriptorIndex := 6, attributes := #[] }] 1057 2 #[] #[])
  fields := #[]
  methods := #[k8m0]
  instanceTypes := #[]
  staticTypes := #[]
  resolved := Array.replicate 22 none
  statics := none }

def pool9 : Array CpInfo := pool [(1, .methodref 2 3), (0, .class_ 4), (0, .nameAndType 5 6), (0, u "java/lang/Record"), (0, u "<init>"), (0, u "()V"), (0, .fieldref 8 9), (0, .class_ 10), (0, .nameAndType 11 12), (0, u "com/example/wheal/wheal/FieldValues$Parameter"), (0, u "name"), (0, u "Ljava/lang/String;"), (0, .fieldref 8 14), (0, .nameAndType 15 12), (0, u "value"), (1, .class_ 19), (1, u "com/example/wheal/wheal/FieldValues"), (30, u "(Ljava/lang/String;)Z"), (2, u "(Ljava/lang/String;Ljava/lang/String;)V"), (4, .string 59), (0, u "\""), (0, .methodref 61 62), (0, .class_ 63), (0, .nameAndType 64 50), (0, u "java/lang/String"), (0, u "startsWith"), (0, .class_ 66), (0, u "java/lang/StringBuilder"), (0, .methodref 65 3), (0, .methodref 61 69), (0, .nameAndType 70 71), (0, u "length"), (0, u "()I"), (0, .methodref 61 73), (0, .nameAndType 74 75), (0, u "charAt"), (0, u "(I)C"), (0, .methodref 65 77), (0, .nameAndType 78 79), (0, u "append"), (0, u "(C)Ljava/lang/StringBuilder;"), (0, .methodref 65 81), (0, .nameAndType 82 83), (0, u "toString"), (0, u "()Ljava/lang/String;"), (18, u "unquoted")] 24

def k9c0 : Code := { maxStack := 2, maxLocals := 3, code := prog_2_method_1_code, exceptionTable := #[], attributes := #[] }
def k9m0 : Method := { name := "<init>", desc := "(Ljava/lang/String;Ljava/lang/String;)V", sig := { parameters := [(.object "java/lang/String"), (.object "java/lang/String")], returnType := none }, accessFlags := 0, code := some k9c0 }
def k9c1 : Code := { maxStack := 3, maxLocals := 6, code := prog_2_method_3_code, exceptionTable := #[], attributes := #[] }
def k9m1 : Method := { name := "unquoted", desc := "()Ljava/lang/String;", sig := { parameters := [], returnType := some (.object "java/lang/String") }, accessFlags := 0, code := some k9c1 }
/-- com/example/wheal/wheal/FieldValues$Parameter -/
def k9 : Class := { plain "com/example/wheal/wheal/FieldValues$Parameter" (some 8) with
  accessFlags := 48
  interfaces := #[]
  cf := some (fileOf pool9 8 #[.nestHost 17] #[{ accessFlags := 0, nameIndex := 5, descriptorIndex := 53, attributes := #[] }, { accessFlags := 0, nameIndex := 102, descriptorIndex := 83, attributes := #[] }] 48 2 #[] #[{ accessFlags := 18, nameIndex := 11, descriptorIndex := 12, attributes := #[] }, { accessFlags := 18, nameIndex := 15, descriptorIndex := 12, attributes := #[] }])
  fields := #[{ name := "name", type := (.object "java/lang/String"), accessFlags := 18, slot := 0, constantValue := 0 }, { name := "value", type := (.object "java/lang/String"), accessFlags := 18, slot := 1, constantValue := 0 }]
  methods := #[k9m0, k9m1]
  instanceTypes := #[(.object "java/lang/String"), (.object "java/lang/String")]
  staticTypes := #[]
  resolved := Array.replicate 127 none
  statics := none }

def pool10 : Array CpInfo := pool [(6, .class_ 8), (1, u "java/lang/Object"), (0, u "<init>"), (0, u "()V"), (1, .class_ 14), (1, u "java/lang/StringUTF16"), (31, u "$assertionsDisabled"), (0, u "Z"), (13, u "HI_BYTE_SHIFT"), (0, u "I"), (2, u "LO_BYTE_SHIFT"), (49, .methodref 12 116), (0, .nameAndType 117 118), (0, u "compress"), (0, u "([CI[BII)I"), (3, u "([CII)[B"), (138, u "coderFromArrayLen"), (0, u "([BI)B"), (106, .class_ 371), (1, u "java/lang/StringUTF16$LinesSpliterator"), (58, u "MAX_LENGTH"), (196, .class_ 628), (0, u "java/lang/StringUTF16$CodePointsSpliterator"), (0, .class_ 630), (0, u "java/lang/StringUTF16$CharsSpliterator")] 4

def k10m0 : Method := { name := "<init>", desc := "()V", sig := { parameters := [], returnType := none }, accessFlags := 0, code := none }
def k10c1 : Code := { maxStack := 2, maxLocals := 2, code := jdk_52_method_15_code, exceptionTable := #[], attributes := #[] }
def k10m1 : Method := { name := "coderFromArrayLen", desc := "([BI)B", sig := { parameters := [(.array .byte), .int], returnType := some .byte }, accessFlags := 8, code := some k10c1 }
def k10c2 : Code := { maxStack := 5, maxLocals := 6, code := jdk_52_method_16_code, exceptionTable := #[], attributes := #[] }
def k10m2 : Method := { name := "compress", desc := "([CII)[B", sig := { parameters := [(.array .char), .int, .int], returnType := some (.array .byte) }, accessFlags := 9, code := some k10c2 }
def k10c3 : Code := { maxStack := 3, maxLocals := 7, code := jdk_52_method_21_code, exceptionTable := #[], attributes := #[] }
def k10m3 : Method := { name := "compress", desc := "([CI[BII)I", sig := { parameters := [(.array .char), .int, (.array .byte), .int, .int], returnType := some .int }, accessFlags := 9, code := some k10c3 }
/-- java/lang/StringUTF16 -/
def k10 : Class := { plain "java/lang/StringUTF16" (some 0) with
  accessFlags := 48
  interfaces := #[]
  cf := some (fileOf pool10 12 #[.nestMembers #[627, 629, 369]] #[{ accessFlags := 0, nameIndex := 9, descriptorIndex := 10, attributes := #[] }, { accessFlags := 8, nameIndex := 261, descriptorIndex := 262, attributes := #[] }, { accessFlags := 9, nameIndex := 117, descriptorIndex := 122, attributes := #[] }, { accessFlags := 9, nameIndex := 117, descriptorIndex := 118, attributes := #[] }] 48 6 #[] #[{ accessFlags := 26, nameIndex := 61, descriptorIndex := 62, attributes := #[] }, { accessFlags := 26, nameIndex := 65, descriptorIndex := 62, attributes := #[] }, { accessFlags := 24, nameIndex := 430, descriptorIndex := 62, attributes := #[] }, { accessFlags := 4120, nameIndex := 46, descriptorIndex := 47, attributes := #[] }])
  fields := #[{ name := "HI_BYTE_SHIFT", type := .int, accessFlags := 26, slot := 0, constantValue := 0 }, { name := "LO_BYTE_SHIFT", type := .int, accessFlags := 26, slot := 1, constantValue := 0 }, { name := "MAX_LENGTH", type := .int, accessFlags := 24, slot := 2, constantValue := 0 }, { name := "$assertionsDisabled", type := .boolean, accessFlags := 4120, slot := 3, constantValue := 0 }]
  methods := #[k10m0, k10m1, k10m2, k10m3]
  instanceTypes := #[]
  staticTypes := #[.int, .int, .int, .boolean]
  resolved := Array.replicate 635 none
  statics := none }

def pool11 : Array CpInfo := pool [(9, u "<init>"), (6, .class_ 18), (1, u "java/lang/Object"), (0, u "()V"), (1, .class_ 23), (1, u "jdk/internal/util/ArraysSupport"), (0, u "LOG2_ARRAY_LONG_INDEX_SCALE"), (0, u "I"), (2, u "U"), (0, u "Ljdk/internal/misc/Unsafe;"), (8, u "BIG_ENDIAN"), (0, u "Z"), (8, u "LOG2_BYTE_BIT_SIZE"), (4, u "LOG2_ARRAY_INT_INDEX_SCALE"), (54, u "JLA"), (0, u "Ljdk/internal/access/JavaLangAccess;"), (11, u "LOG2_ARRAY_BOOLEAN_INDEX_SCALE"), (9, u "LOG2_ARRAY_BYTE_INDEX_SCALE"), (5, u "LOG2_ARRAY_CHAR_INDEX_SCALE"), (5, u "LOG2_ARRAY_SHORT_INDEX_SCALE"), (5, u "mismatch"), (12, u "LOG2_ARRAY_FLOAT_INDEX_SCALE"), (24, u "LOG2_ARRAY_DOUBLE_INDEX_SCALE"), (89, u "T_BOOLEAN"), (2, u "T_CHAR"), (1, u "T_FLOAT"), (1, u "T_DOUBLE"), (1, u "T_BYTE"), (1, u "T_SHORT"), (1, u "T_INT"), (1, u "T_LONG"), (1, u "SOFT_MAX_ARRAY_LENGTH"), (42, u "([BI[BII)I")] 40

def k11m0 : Method := { name := "<init>", desc := "()V", sig := { parameters := [], returnType := none }, accessFlags := 2, code := none }
def k11c1 : Code := { maxStack := 8, maxLocals := 8, code := jdk_48_method_14_code, exceptionTable := #[], attributes := #[] }
def k11m1 : Method := { name := "mismatch", desc := "([BI[BII)I", sig := { parameters := [(.array .byte), .int, (.array .byte), .int, .int], returnType := some .int }, accessFlags := 9, code := some k11c1 }
/-- jdk/internal/util/ArraysSupport -/
def k11 : Class := { plain "jdk/internal/util/ArraysSupport" (some 0) with
  accessFlags := 33
  interfaces := #[]
  cf := some (fileOf pool11 21 #[] #[{ accessFlags := 2, nameIndex := 9, descriptorIndex := 19, attributes := #[] }, { accessFlags := 9, nameIndex := 149, descriptorIndex := 337, attributes := #[] }] 33 16 #[] #[{ accessFlags := 24, nameIndex := 28, descriptorIndex := 29, attributes := #[] }, { accessFlags := 26, nameIndex := 38, descriptorIndex := 39, attributes := #[] }, { accessFlags := 25, nameIndex := 121, descriptorIndex := 25, attributes := #[] }, { accessFlags := 25, nameIndex := 131, descriptorIndex := 25, attributes := #[] }, { accessFlags := 25, nameIndex := 137, descriptorIndex := 25, attributes := #[] }, { accessFlags := 25, nameIndex := 143, descriptorIndex := 25, attributes := #[] }, { accessFlags := 25, nameIndex := 53, descriptorIndex := 25, attributes := #[] }, { accessFlags := 25, nameIndex := 24, descriptorIndex := 25, attributes := #[] }, { accessFlags := 25, nameIndex := 162, descriptorIndex := 25, attributes := #[] }, { accessFlags := 25, nameIndex := 187, descriptorIndex := 25, attributes := #[] }, { accessFlags := 26, nameIndex := 48, descriptorIndex := 25, attributes := #[] }, { accessFlags := 25, nameIndex := 277, descriptorIndex := 25, attributes := #[] }, { accessFlags := 25, nameIndex := 280, descriptorIndex := 25, attributes := #[] }, { accessFlags := 25, nameIndex := 282, descriptorIndex := 25, attributes := #[] }, { accessFlags := 25, nameIndex := 284, descriptorIndex := 25, attributes := #[] }, { accessFlags := 25, nameIndex := 286, descriptorIndex := 25, attributes := #[] }, { accessFlags := 25, nameIndex := 288, descriptorIndex := 25, attributes := #[] }, { accessFlags := 25, nameIndex := 290, descriptorIndex := 25, attributes := #[] }, { accessFlags := 25, nameIndex := 292, descriptorIndex := 25, attributes := #[] }, { accessFlags := 26, nameIndex := 108, descriptorIndex := 109, attributes := #[] }, { accessFlags := 25, nameIndex := 294, descriptorIndex := 25, attributes := #[] }])
  fields := #[{ name := "U", type := (.object "jdk/internal/misc/Unsafe"), accessFlags := 24, slot := 0, constantValue := 0 }, { name := "BIG_ENDIAN", type := .boolean, accessFlags := 26, slot := 1, constantValue := 0 }, { name := "LOG2_ARRAY_BOOLEAN_INDEX_SCALE", type := .int, accessFlags := 25, slot := 2, constantValue := 0 }, { name := "LOG2_ARRAY_BYTE_INDEX_SCALE", type := .int, accessFlags := 25, slot := 3, constantValue := 0 }, { name := "LOG2_ARRAY_CHAR_INDEX_SCALE", type := .int, accessFlags := 25, slot := 4, constantValue := 0 }, { name := "LOG2_ARRAY_SHORT_INDEX_SCALE", type := .int, accessFlags := 25, slot := 5, constantValue := 0 }, { name := "LOG2_ARRAY_INT_INDEX_SCALE", type := .int, accessFlags := 25, slot := 6, constantValue := 0 }, { name := "LOG2_ARRAY_LONG_INDEX_SCALE", type := .int, accessFlags := 25, slot := 7, constantValue := 0 }, { name := "LOG2_ARRAY_FLOAT_INDEX_SCALE", type := .int, accessFlags := 25, slot := 8, constantValue := 0 }, { name := "LOG2_ARRAY_DOUBLE_INDEX_SCALE", type := .int, accessFlags := 25, slot := 9, constantValue := 0 }, { name := "LOG2_BYTE_BIT_SIZE", type := .int, accessFlags := 26, slot := 10, constantValue := 0 }, { name := "T_BOOLEAN", type := .int, accessFlags := 25, slot := 11, constantValue := 0 }, { name := "T_CHAR", type := .int, accessFlags := 25, slot := 12, constantValue := 0 }, { name := "T_FLOAT", type := .int, accessFlags := 25, slot := 13, constantValue := 0 }, { name := "T_DOUBLE", type := .int, accessFlags := 25, slot := 14, constantValue := 0 }, { name := "T_BYTE", type := .int, accessFlags := 25, slot := 15, constantValue := 0 }, { name := "T_SHORT", type := .int, accessFlags := 25, slot := 16, constantValue := 0 }, { name := "T_INT", type := .int, accessFlags := 25, slot := 17, constantValue := 0 }, { name := "T_LONG", type := .int, accessFlags := 25, slot := 18, constantValue := 0 }, { name := "JLA", type := (.object "jdk/internal/access/JavaLangAccess"), accessFlags := 26, slot := 19, constantValue := 0 }, { name := "SOFT_MAX_ARRAY_LENGTH", type := .int, accessFlags := 25, slot := 20, constantValue := 0 }]
  methods := #[k11m0, k11m1]
  instanceTypes := #[]
  staticTypes := #[(.object "jdk/internal/misc/Unsafe"), .boolean, .int, .int, .int, .int, .int, .int, .int, .int, .int, .int, .int, .int, .int, .int, .int, .int, .int, (.object "jdk/internal/access/JavaLangAccess"), .int]
  resolved := Array.replicate 378 none
  statics := none }

def pool12 : Array CpInfo := pool [(1, .class_ 2), (0, u "java/lang/Appendable"), (0, .class_ 4), (0, u "java/lang/Object")] 9

/-- java/lang/Appendable -/
def k12 : Class := { plain "java/lang/Appendable" (some 0) with
  accessFlags := 1537
  interfaces := #[]
  cf := some (fileOf pool12 1 #[] #[] 1537 3 #[] #[])
  fields := #[]
  methods := #[]
  instanceTypes := #[]
  staticTypes := #[]
  resolved := Array.replicate 14 none
  statics := none }

def pool13 : Array CpInfo := pool [(1, .class_ 2), (0, u "java/lang/String"), (0, .methodref 4 5), (0, .class_ 6), (0, .nameAndType 7 8), (0, u "java/lang/Object"), (0, u "<init>"), (0, u "()V"), (1, .class_ 12), (1, u "java/lang/AbstractStringBuilder"), (0, u "EMPTYVALUE"), (0, u "[B"), (0, .fieldref 10 16), (0, .nameAndType 17 14), (0, u "value"), (0, .fieldref 1 19), (0, .nameAndType 20 21), (0, u "COMPACT_STRINGS"), (0, u "Z"), (0, .fieldref 10 23), (0, .nameAndType 24 25), (0, u "coder"), (0, u "B"), (8, u "length"), (0, u "()I"), (9, u "append"), (2, .class_ 49), (0, u "java/lang/CharSequence"), (25, u "maybeLatin1"), (3, .fieldref 10 80), (0, .nameAndType 81 82), (0, u "count"), (0, u "I"), (0, .methodref 10 84), (0, .nameAndType 85 86), (0, u "isLatin1"), (0, u "()Z"), (1, .class_ 90), (1, u "java/lang/StringLatin1"), (9, .methodref 10 101), (0, .nameAndType 102 103), (0, u "ensureCapacityInternal"), (0, u "(I)V"), (87, .methodref 88 192), (0, .nameAndType 193 194), (0, u "canEncode"), (0, u "(C)Z"), (97, u "(C)Ljava/lang/AbstractStringBuilder;"), (110, u "()[B"), (40, .class_ 445), (0, u "java/lang/Appendable"), (106, u "getValue")] 56

def k13m0 : Method := { name := "<init>", desc := "()V", sig := { parameters := [], returnType := none }, accessFlags := 0, code := none }
def k13c1 : Code := { maxStack := 2, maxLocals := 2, code := jdk_68_method_2_code, exceptionTable := #[], attributes := #[] }
def k13m1 : Method := { name := "<init>", desc := "(I)V", sig := { parameters := [.int], returnType := none }, accessFlags := 0, code := some k13c1 }
def k13c2 : Code := { maxStack := 1, maxLocals := 1, code := jdk_68_method_6_code, exceptionTable := #[], attributes := #[] }
def k13m2 : Method := { name := "length", desc := "()I", sig := { parameters := [], returnType := some .int }, accessFlags := 1, code := some k13c2 }
def k13c3 : Code := { maxStack := 4, maxLocals := 3, code := jdk_68_method_9_code, exceptionTable := #[], attributes := #[] }
def k13m3 : Method := { name := "ensureCapacityInternal", desc := "(I)V", sig := { parameters := [.int], returnType := none }, accessFlags := 2, code := some k13c3 }
def k13c4 : Code := { maxStack := 5, maxLocals := 2, code := jdk_68_method_31_code, exceptionTable := #[], attributes := #[] }
def k13m4 : Method := { name := "append", desc := "(C)Ljava/lang/AbstractStringBuilder;", sig := { parameters := [.char], returnType := some (.object "java/lang/AbstractStringBuilder") }, accessFlags := 1, code := some k13c4 }
def k13c5 : Code := { maxStack := 1, maxLocals := 1, code := jdk_68_method_64_code, exceptionTable := #[], attributes := #[] }
def k13m5 : Method := { name := "getValue", desc := "()[B", sig := { parameters := [], returnType := some (.array .byte) }, accessFlags := 16, code := some k13c5 }
def k13c6 : Code := { maxStack := 1, maxLocals := 1, code := jdk_68_method_68_code, exceptionTable := #[], attributes := #[] }
def k13m6 : Method := { name := "isLatin1", desc := "()Z", sig := { parameters := [], returnType := some .boolean }, accessFlags := 16, code := some k13c6 }
/-- java/lang/AbstractStringBuilder -/
def k13 : Class := { plain "java/lang/AbstractStringBuilder" (some 0) with
  accessFlags := 1056
  interfaces := #[12, 4]
  cf := some (fileOf pool13 10 #[] #[{ accessFlags := 0, nameIndex := 7, descriptorIndex := 8, attributes := #[] }, { accessFlags := 0, nameIndex := 7, descriptorIndex := 103, attributes := #[] }, { accessFlags := 1, nameIndex := 34, descriptorIndex := 35, attributes := #[] }, { accessFlags := 2, nameIndex := 102, descriptorIndex := 103, attributes := #[] }, { accessFlags := 1, nameIndex := 45, descriptorIndex := 292, attributes := #[] }, { accessFlags := 16, nameIndex := 552, descriptorIndex := 403, attributes := #[] }, { accessFlags := 16, nameIndex := 85, descriptorIndex := 86, attributes := #[] }] 1056 4 #[444, 48] #[{ accessFlags := 0, nameIndex := 17, descriptorIndex := 14, attributes := #[] }, { accessFlags := 0, nameIndex := 24, descriptorIndex := 25, attributes := #[] }, { accessFlags := 0, nameIndex := 75, descriptorIndex := 21, attributes := #[] }, { accessFlags := 0, nameIndex := 81, descriptorIndex := 82, attributes := #[] }, { accessFlags := 26, nameIndex := 13, descriptorIndex := 14, attributes := #[] }])
  fields := #[{ name := "value", type := (.array .byte), accessFlags := 0, slot := 0, constantValue := 0 }, { name := "coder", type := .byte, accessFlags := 0, slot := 1, constantValue := 0 }, { name := "maybeLatin1", type := .boolean, accessFlags := 0, slot := 2, constantValue := 0 }, { name := "count", type := .int, accessFlags := 0, slot := 3, constantValue := 0 }, { name := "EMPTYVALUE", type := (.array .byte), accessFlags := 26, slot := 0, constantValue := 0 }]
  methods := #[k13m0, k13m1, k13m2, k13m3, k13m4, k13m5, k13m6]
  instanceTypes := #[(.array .byte), .byte, .boolean, .int]
  staticTypes := #[(.array .byte)]
  resolved := Array.replicate 609 none
  statics := none }

def pool14 : Array CpInfo := pool [(1, .methodref 2 3), (0, .class_ 4), (0, .nameAndType 5 6), (0, u "java/lang/AbstractStringBuilder"), (0, u "<init>"), (0, u "(I)V"), (11, .class_ 20), (1, u "java/lang/String"), (3, .class_ 26), (1, u "java/lang/StringBuilder"), (0, u "append"), (22, .methodref 2 51), (0, .nameAndType 27 52), (0, u "(C)Ljava/lang/AbstractStringBuilder;"), (84, .methodref 18 138), (0, .nameAndType 5 139), (0, u "(Ljava/lang/StringBuilder;)V"), (5, u "()V"), (10, u "()I"), (129, u "(C)Ljava/lang/StringBuilder;"), (56, .methodref 2 344), (0, .nameAndType 345 156), (0, u "length"), (3, .class_ 350), (0, u "java/lang/Appendable"), (0, .class_ 352), (0, u "java/io/Serializable"), (0, .class_ 354), (0, u "java/lang/Comparable"), (0, .class_ 356), (0, u "java/lang/CharSequence"), (0, u "serialVersionUID"), (0, u "J"), (40, u "toString"), (0, u "()Ljava/lang/String;")] 21

def k14c0 : Code := { maxStack := 2, maxLocals := 1, code := jdk_67_method_1_code, exceptionTable := #[], attributes := #[] }
def k14m0 : Method := { name := "<init>", desc := "()V", sig := { parameters := [], returnType := none }, accessFlags := 1, code := some k14c0 }
def k14c1 : Code := { maxStack := 2, maxLocals := 2, code := jdk_67_method_14_code, exceptionTable := #[], attributes := #[] }
def k14m1 : Method := { name := "append", desc := "(C)Ljava/lang/StringBuilder;", sig := { parameters := [.char], returnType := some (.object "java/lang/StringBuilder") }, accessFlags := 1, code := some k14c1 }
def k14c2 : Code := { maxStack := 3, maxLocals := 1, code := jdk_67_method_42_code, exceptionTable := #[], attributes := #[] }
def k14m2 : Method := { name := "toString", desc := "()Ljava/lang/String;", sig := { parameters := [], returnType := some (.object "java/lang/String") }, accessFlags := 1, code := some k14c2 }
def k14c3 : Code := { maxStack := 1, maxLocals := 1, code := jdk_67_method_93_code, exceptionTable := #[], attributes := #[] }
def k14m3 : Method := { name := "length", desc := "()I", sig := { parameters := [], returnType := some .int }, accessFlags := 4161, code := some k14c3 }
/-- java/lang/StringBuilder -/
def k14 : Class := { plain "java/lang/StringBuilder" (some 13) with
  accessFlags := 49
  interfaces := #[12, 2, 3, 4]
  cf := some (fileOf pool14 24 #[] #[{ accessFlags := 1, nameIndex := 5, descriptorIndex := 145, attributes := #[] }, { accessFlags := 1, nameIndex := 27, descriptorIndex := 286, attributes := #[] }, { accessFlags := 1, nameIndex := 399, descriptorIndex := 400, attributes := #[] }, { accessFlags := 4161, nameIndex := 345, descriptorIndex := 156, attributes := #[] }] 49 2 #[349, 351, 353, 355] #[{ accessFlags := 24, nameIndex := 357, descriptorIndex := 358, attributes := #[] }])
  fields := #[{ name := "serialVersionUID", type := .long, accessFlags := 24, slot := 0, constantValue := 0 }]
  methods := #[k14m0, k14m1, k14m2, k14m3]
  instanceTypes := #[(.array .byte), .byte, .boolean, .int]
  staticTypes := #[.long]
  resolved := Array.replicate 422 none
  statics := none }

def pool15 : Array CpInfo := pool [(1, .class_ 2), (0, u "java/lang/String"), (1, .class_ 6), (1, u "java/lang/Object"), (0, u "<init>"), (0, u "()V"), (0, .methodref 1 10), (0, .nameAndType 11 12), (0, u "checkIndex"), (0, u "(II)V"), (1, .class_ 16), (1, u "java/lang/StringLatin1"), (36, u "([BI)C"), (36, u "canEncode"), (14, u "(C)Z"), (15, u "$assertionsDisabled"), (0, u "Z"), (98, .class_ 223), (1, u "java/lang/StringLatin1$LinesSpliterator"), (28, u "charAt"), (28, u "equals"), (0, u "([B[B)Z"), (107, .class_ 391), (0, u "java/lang/StringLatin1$CharsSpliterator")] 3

def k15m0 : Method := { name := "<init>", desc := "()V", sig := { parameters := [], returnType := none }, accessFlags := 0, code := none }
def k15c1 : Code := { maxStack := 2, maxLocals := 2, code := jdk_43_method_2_code, exceptionTable := #[], attributes := #[] }
def k15m1 : Method := { name := "charAt", desc := "([BI)C", sig := { parameters := [(.array .byte), .int], returnType := some .char }, accessFlags := 9, code := some k15c1 }
def k15c2 : Code := { maxStack := 2, maxLocals := 1, code := jdk_43_method_3_code, exceptionTable := #[], attributes := #[] }
def k15m2 : Method := { name := "canEncode", desc := "(C)Z", sig := { parameters := [.char], returnType := some .boolean }, accessFlags := 9, code := some k15c2 }
def k15c3 : Code := { maxStack := 3, maxLocals := 3, code := jdk_43_method_13_code, exceptionTable := #[], attributes := #[] }
def k15m3 : Method := { name := "equals", desc := "([B[B)Z", sig := { parameters := [(.array .byte), (.array .byte)], returnType := some .boolean }, accessFlags := 9, code := some k15c3 }
/-- java/lang/StringLatin1 -/
def k15 : Class := { plain "java/lang/StringLatin1" (some 0) with
  accessFlags := 48
  interfaces := #[]
  cf := some (fileOf pool15 14 #[.nestMembers #[390, 221]] #[{ accessFlags := 0, nameIndex := 7, descriptorIndex := 8, attributes := #[] }, { accessFlags := 9, nameIndex := 252, descriptorIndex := 53, attributes := #[] }, { accessFlags := 9, nameIndex := 90, descriptorIndex := 105, attributes := #[] }, { accessFlags := 9, nameIndex := 281, descriptorIndex := 282, attributes := #[] }] 48 4 #[] #[{ accessFlags := 4120, nameIndex := 121, descriptorIndex := 122, attributes := #[] }])
  fields := #[{ name := "$assertionsDisabled", type := .boolean, accessFlags := 4120, slot := 0, constantValue := 0 }]
  methods := #[k15m0, k15m1, k15m2, k15m3]
  instanceTypes := #[]
  staticTypes := #[.boolean]
  resolved := Array.replicate 395 none
  statics := none }

def pool16 : Array CpInfo := pool [(2, .class_ 4), (1, u "java/lang/Object"), (0, u "<init>"), (0, u "()V"), (17, .class_ 26), (1, u "jdk/internal/util/Preconditions"), (6, u "checkIndex"), (21, .class_ 56), (0, u "jdk/internal/util/Preconditions$4"), (57, .class_ 115), (0, u "jdk/internal/util/Preconditions$1"), (7, u "SIOOBE_FORMATTER"), (0, u "Ljava/util/function/BiFunction;"), (0, .class_ 126), (0, u "jdk/internal/util/Preconditions$2"), (3, u "AIOOBE_FORMATTER"), (0, .class_ 132), (0, u "jdk/internal/util/Preconditions$3"), (3, u "IOOBE_FORMATTER"), (41, u "(IILjava/util/function/BiFunction;)I")] 15

def k16m0 : Method := { name := "<init>", desc := "()V", sig := { parameters := [], returnType := none }, accessFlags := 1, code := none }
def k16c1 : Code := { maxStack := 3, maxLocals := 3, code := jdk_41_method_11_code, exceptionTable := #[], attributes := #[] }
def k16m1 : Method := { name := "checkIndex", desc := "(IILjava/util/function/BiFunction;)I", sig := { parameters := [.int, .int, (.object "java/util/function/BiFunction")], returnType := some .int }, accessFlags := 9, code := some k16c1 }
/-- jdk/internal/util/Preconditions -/
def k16 : Class := { plain "jdk/internal/util/Preconditions" (some 0) with
  accessFlags := 33
  interfaces := #[]
  cf := some (fileOf pool16 24 #[.nestMembers #[55, 131, 125, 114]] #[{ accessFlags := 1, nameIndex := 5, descriptorIndex := 6, attributes := #[] }, { accessFlags := 9, nameIndex := 33, descriptorIndex := 178, attributes := #[] }] 33 2 #[] #[{ accessFlags := 25, nameIndex := 123, descriptorIndex := 124, attributes := #[] }, { accessFlags := 25, nameIndex := 130, descriptorIndex := 124, attributes := #[] }, { accessFlags := 25, nameIndex := 136, descriptorIndex := 124, attributes := #[] }])
  fields := #[{ name := "SIOOBE_FORMATTER", type := (.object "java/util/function/BiFunction"), accessFlags := 25, slot := 0, constantValue := 0 }, { name := "AIOOBE_FORMATTER", type := (.object "java/util/function/BiFunction"), accessFlags := 25, slot := 1, constantValue := 0 }, { name := "IOOBE_FORMATTER", type := (.object "java/util/function/BiFunction"), accessFlags := 25, slot := 2, constantValue := 0 }]
  methods := #[k16m0, k16m1]
  instanceTypes := #[]
  staticTypes := #[(.object "java/util/function/BiFunction"), (.object "java/util/function/BiFunction"), (.object "java/util/function/BiFunction")]
  resolved := Array.replicate 194 none
  statics := some 1 }

def pool17 : Array CpInfo := pool [(2, .class_ 4), (1, u "java/lang/Object"), (0, u "<init>"), (0, u "()V"), (7, .class_ 16), (1, u "java/util/Arrays"), (57, .class_ 76), (1, u "java/util/Arrays$NaturalOrder"), (36, .class_ 115), (1, u "java/util/Arrays$LegacyMergeSort"), (1, u "Z"), (21, u "copyOfRange"), (10, .methodref 151 152), (0, .class_ 153), (0, .nameAndType 154 155), (0, u "java/lang/System"), (0, u "arraycopy"), (0, u "(Ljava/lang/Object;ILjava/lang/Object;II)V"), (148, .methodref 305 306), (0, .class_ 307), (0, .nameAndType 308 309), (0, u "java/lang/Math"), (0, u "min"), (0, u "(II)I"), (29, .methodref 14 340), (0, .nameAndType 341 342), (0, u "copyOfRangeByte"), (0, u "([BII)[B"), (0, .methodref 14 344), (0, .nameAndType 345 346), (0, u "checkLength"), (0, u "(II)V"), (28, .class_ 376), (0, u "java/util/Arrays$ArrayList"), (68, u "$assertionsDisabled"), (269, u "MIN_ARRAY_SORT_GRAN"), (0, u "I"), (2, u "INSERTIONSORT_THRESHOLD"), (255, .class_ 976), (0, u "java/util/Arrays$ArrayItr")] 52

def k17m0 : Method := { name := "<init>", desc := "()V", sig := { parameters := [], returnType := none }, accessFlags := 2, code := none }
def k17c1 : Code := { maxStack := 4, maxLocals := 2, code := jdk_65_method_131_code, exceptionTable := #[], attributes := #[] }
def k17m1 : Method := { name := "checkLength", desc := "(II)V", sig := { parameters := [.int, .int], returnType := none }, accessFlags := 10, code := some k17c1 }
def k17c2 : Code := { maxStack := 3, maxLocals := 3, code := jdk_65_method_132_code, exceptionTable := #[], attributes := #[] }
def k17m2 : Method := { name := "copyOfRange", desc := "([BII)[B", sig := { parameters := [(.array .byte), .int, .int], returnType := some (.array .byte) }, accessFlags := 9, code := some k17c2 }
def k17c3 : Code := { maxStack := 6, maxLocals := 5, code := jdk_65_method_133_code, exceptionTable := #[], attributes := #[] }
def k17m3 : Method := { name := "copyOfRangeByte", desc := "([BII)[B", sig := { parameters := [(.array .byte), .int, .int], returnType := some (.array .byte) }, accessFlags := 10, code := some k17c3 }
/-- java/util/Arrays -/
def k17 : Class := { plain "java/util/Arrays" (some 0) with
  accessFlags := 49
  interfaces := #[]
  cf := some (fileOf pool17 14 #[.nestMembers #[975, 375, 113, 74]] #[{ accessFlags := 2, nameIndex := 5, descriptorIndex := 6, attributes := #[] }, { accessFlags := 10, nameIndex := 345, descriptorIndex := 346, attributes := #[] }, { accessFlags := 9, nameIndex := 139, descriptorIndex := 342, attributes := #[] }, { accessFlags := 10, nameIndex := 341, descriptorIndex := 342, attributes := #[] }] 49 2 #[] #[{ accessFlags := 26, nameIndex := 715, descriptorIndex := 716, attributes := #[] }, { accessFlags := 26, nameIndex := 719, descriptorIndex := 716, attributes := #[] }, { accessFlags := 4120, nameIndex := 445, descriptorIndex := 117, attributes := #[] }])
  fields := #[{ name := "MIN_ARRAY_SORT_GRAN", type := .int, accessFlags := 26, slot := 0, constantValue := 0 }, { name := "INSERTIONSORT_THRESHOLD", type := .int, accessFlags := 26, slot := 1, constantValue := 0 }, { name := "$assertionsDisabled", type := .boolean, accessFlags := 4120, slot := 2, constantValue := 0 }]
  methods := #[k17m0, k17m1, k17m2, k17m3]
  instanceTypes := #[]
  staticTypes := #[.int, .int, .boolean]
  resolved := Array.replicate 1029 none
  statics := none }

def pool18 : Array CpInfo := pool [(1, .class_ 2), (0, u "java/lang/Math"), (1, .class_ 6), (1, u "java/lang/Object"), (0, u "<init>"), (0, u "()V"), (89, .class_ 100), (1, u "java/lang/Math$RandomNumberGeneratorHolder"), (71, u "negativeZeroFloatBits"), (0, u "J"), (2, u "negativeZeroDoubleBits"), (21, u "max"), (2, u "min"), (43, u "$assertionsDisabled"), (0, u "Z"), (88, u "(II)I"), (2, u "twoToTheDoubleScaleDown"), (0, u "D"), (4, u "twoToTheDoubleScaleUp"), (9, u "E"), (3, u "PI"), (2, u "TAU"), (2, u "DEGREES_TO_RADIANS"), (0, u "RADIANS_TO_DEGREES")] 94

def k18m0 : Method := { name := "<init>", desc := "()V", sig := { parameters := [], returnType := none }, accessFlags := 2, code := none }
def k18c1 : Code := { maxStack := 2, maxLocals := 2, code := jdk_29_method_65_code, exceptionTable := #[], attributes := #[] }
def k18m1 : Method := { name := "max", desc := "(II)I", sig := { parameters := [.int, .int], returnType := some .int }, accessFlags := 9, code := some k18c1 }
def k18c2 : Code := { maxStack := 2, maxLocals := 2, code := jdk_29_method_69_code, exceptionTable := #[], attributes := #[] }
def k18m2 : Method := { name := "min", desc := "(II)I", sig := { parameters := [.int, .int], returnType := some .int }, accessFlags := 9, code := some k18c2 }
/-- java/lang/Math -/
def k18 : Class := { plain "java/lang/Math" (some 0) with
  accessFlags := 49
  interfaces := #[]
  cf := some (fileOf pool18 1 #[.nestMembers #[98]] #[{ accessFlags := 2, nameIndex := 7, descriptorIndex := 8, attributes := #[] }, { accessFlags := 9, nameIndex := 198, descriptorIndex := 335, attributes := #[] }, { accessFlags := 9, nameIndex := 201, descriptorIndex := 335, attributes := #[] }] 49 4 #[] #[{ accessFlags := 25, nameIndex := 354, descriptorIndex := 339, attributes := #[] }, { accessFlags := 25, nameIndex := 358, descriptorIndex := 339, attributes := #[] }, { accessFlags := 25, nameIndex := 361, descriptorIndex := 339, attributes := #[] }, { accessFlags := 26, nameIndex := 364, descriptorIndex := 339, attributes := #[] }, { accessFlags := 26, nameIndex := 365, descriptorIndex := 339, attributes := #[] }, { accessFlags := 26, nameIndex := 172, descriptorIndex := 173, attributes := #[] }, { accessFlags := 26, nameIndex := 176, descriptorIndex := 173, attributes := #[] }, { accessFlags := 8, nameIndex := 344, descriptorIndex := 339, attributes := #[] }, { accessFlags := 8, nameIndex := 338, descriptorIndex := 339, attributes := #[] }, { accessFlags := 4120, nameIndex := 245, descriptorIndex := 246, attributes := #[] }])
  fields := #[{ name := "E", type := .double, accessFlags := 25, slot := 0, constantValue := 0 }, { name := "PI", type := .double, accessFlags := 25, slot := 1, constantValue := 0 }, { name := "TAU", type := .double, accessFlags := 25, slot := 2, constantValue := 0 }, { name := "DEGREES_TO_RADIANS", type := .double, accessFlags := 26, slot := 3, constantValue := 0 }, { name := "RADIANS_TO_DEGREES", type := .double, accessFlags := 26, slot := 4, constantValue := 0 }, { name := "negativeZeroFloatBits", type := .long, accessFlags := 26, slot := 5, constantValue := 0 }, { name := "negativeZeroDoubleBits", type := .long, accessFlags := 26, slot := 6, constantValue := 0 }, { name := "twoToTheDoubleScaleUp", type := .double, accessFlags := 8, slot := 7, constantValue := 0 }, { name := "twoToTheDoubleScaleDown", type := .double, accessFlags := 8, slot := 8, constantValue := 0 }, { name := "$assertionsDisabled", type := .boolean, accessFlags := 4120, slot := 9, constantValue := 0 }]
  methods := #[k18m0, k18m1, k18m2]
  instanceTypes := #[]
  staticTypes := #[.double, .double, .double, .double, .double, .long, .long, .double, .double, .boolean]
  resolved := Array.replicate 460 none
  statics := none }

def pool19 : Array CpInfo := pool [(2, .class_ 4), (1, u "java/lang/Object"), (0, u "<init>"), (0, u "()V"), (1, .class_ 10), (1, u "java/lang/System"), (0, u "allowSecurityManager"), (0, u "I"), (16, u "cons"), (0, u "Ljava/io/Console;"), (77, .class_ 110), (1, u "java/lang/System$CallersHolder"), (43, u "initialErrStream"), (0, u "Ljava/io/PrintStream;"), (19, u "security"), (0, u "Ljava/lang/SecurityManager;"), (31, .class_ 209), (0, u "java/lang/System$1"), (7, u "props"), (0, u "Ljava/util/Properties;"), (2, u "lineSeparator"), (0, u "Ljava/lang/String;"), (96, .class_ 321), (1, u "java/lang/System$LoggerFinder"), (5, .class_ 328), (0, u "java/lang/System$Logger"), (67, u "err"), (2, u "out"), (91, u "notSupportedJnuEncoding"), (15, u "in"), (17, u "initialIn"), (0, u "Ljava/io/InputStream;"), (35, u "bootLayer"), (0, u "Ljava/lang/ModuleLayer;"), (99, .class_ 664), (0, u "java/lang/System$2"), (9, u "NEVER"), (2, u "MAYBE"), (49, u "arraycopy"), (0, u "(Ljava/lang/Object;ILjava/lang/Object;II)V"), (72, .class_ 802), (0, u "java/lang/System$Logger$Level")] 31

def k19m0 : Method := { name := "<init>", desc := "()V", sig := { parameters := [], returnType := none }, accessFlags := 2, code := none }
def k19m1 : Method := { name := "arraycopy", desc := "(Ljava/lang/Object;ILjava/lang/Object;II)V", sig := { parameters := [(.object "java/lang/Object"), .int, (.object "java/lang/Object"), .int, .int], returnType := none }, accessFlags := 265, code := none }
/-- java/lang/System -/
def k19 : Class := { plain "java/lang/System" (some 0) with
  accessFlags := 49
  interfaces := #[]
  cf := some (fileOf pool19 8 #[.nestMembers #[319, 327, 801, 108, 663, 208]] #[{ accessFlags := 2, nameIndex := 5, descriptorIndex := 6, attributes := #[] }, { accessFlags := 265, nameIndex := 727, descriptorIndex := 728, attributes := #[] }] 49 2 #[] #[{ accessFlags := 25, nameIndex := 507, descriptorIndex := 526, attributes := #[] }, { accessFlags := 25, nameIndex := 399, descriptorIndex := 155, attributes := #[] }, { accessFlags := 25, nameIndex := 396, descriptorIndex := 155, attributes := #[] }, { accessFlags := 10, nameIndex := 525, descriptorIndex := 526, attributes := #[] }, { accessFlags := 26, nameIndex := 674, descriptorIndex := 12, attributes := #[] }, { accessFlags := 26, nameIndex := 677, descriptorIndex := 12, attributes := #[] }, { accessFlags := 10, nameIndex := 11, descriptorIndex := 12, attributes := #[] }, { accessFlags := 74, nameIndex := 175, descriptorIndex := 176, attributes := #[] }, { accessFlags := 10, nameIndex := 491, descriptorIndex := 222, attributes := #[] }, { accessFlags := 74, nameIndex := 29, descriptorIndex := 30, attributes := #[] }, { accessFlags := 74, nameIndex := 154, descriptorIndex := 155, attributes := #[] }, { accessFlags := 10, nameIndex := 217, descriptorIndex := 218, attributes := #[] }, { accessFlags := 10, nameIndex := 221, descriptorIndex := 222, attributes := #[] }, { accessFlags := 8, nameIndex := 562, descriptorIndex := 563, attributes := #[] }])
  fields := #[{ name := "in", type := (.object "java/io/InputStream"), accessFlags := 25, slot := 0, constantValue := 0 }, { name := "out", type := (.object "java/io/PrintStream"), accessFlags := 25, slot := 1, constantValue := 0 }, { name := "err", type := (.object "java/io/PrintStream"), accessFlags := 25, slot := 2, constantValue := 0 }, { name := "initialIn", type := (.object "java/io/InputStream"), accessFlags := 10, slot := 3, constantValue := 0 }, { name := "NEVER", type := .int, accessFlags := 26, slot := 4, constantValue := 0 }, { name := "MAYBE", type := .int, accessFlags := 26, slot := 5, constantValue := 0 }, { name := "allowSecurityManager", type := .int, accessFlags := 10, slot := 6, constantValue := 0 }, { name := "security", type := (.object "java/lang/SecurityManager"), accessFlags := 74, slot := 7, constantValue := 0 }, { name := "notSupportedJnuEncoding", type := (.object "java/lang/String"), accessFlags := 10, slot := 8, constantValue := 0 }, { name := "cons", type := (.object "java/io/Console"), accessFlags := 74, slot := 9, constantValue := 0 }, { name := "initialErrStream", type := (.object "java/io/PrintStream"), accessFlags := 74, slot := 10, constantValue := 0 }, { name := "props", type := (.object "java/util/Properties"), accessFlags := 10, slot := 11, constantValue := 0 }, { name := "lineSeparator", type := (.object "java/lang/String"), accessFlags := 10, slot := 12, constantValue := 0 }, { name := "bootLayer", type := (.object "java/lang/ModuleLayer"), accessFlags := 8, slot := 13, constantValue := 0 }]
  methods := #[k19m0, k19m1]
  instanceTypes := #[]
  staticTypes := #[(.object "java/io/InputStream"), (.object "java/io/PrintStream"), (.object "java/io/PrintStream"), (.object "java/io/InputStream"), .int, .int, .int, (.object "java/lang/SecurityManager"), (.object "java/lang/String"), (.object "java/io/Console"), (.object "java/io/PrintStream"), (.object "java/util/Properties"), (.object "java/lang/String"), (.object "java/lang/ModuleLayer")]
  resolved := Array.replicate 834 none
  statics := none }

def pool20 : Array CpInfo := pool [(1, u "java/lang/Cloneable"), (0, .class_ 1), (0, u "java/lang/Object"), (0, .class_ 3)] 3

/-- java/lang/Cloneable -/
def k20 : Class := { plain "java/lang/Cloneable" (some 0) with
  accessFlags := 1537
  interfaces := #[]
  cf := some (fileOf pool20 2 #[] #[] 1537 4 #[] #[])
  fields := #[]
  methods := #[]
  instanceTypes := #[]
  staticTypes := #[]
  resolved := Array.replicate 8 none
  statics := none }

/-- the primitive byte -/
def k21 : Class := { plain "byte" none with kind := .primitive 'B', accessFlags := 0x411 }
/-- [B -/
def k22 : Class := { plain "[B" (some 0) with kind := .array 21 .byte, interfaces := #[20, 2], accessFlags := 1041 }

/-- the primitive char -/
def k23 : Class := { plain "char" none with kind := .primitive 'C', accessFlags := 0x411 }
/-- [C -/
def k24 : Class := { plain "[C" (some 0) with kind := .array 23 .char, interfaces := #[20, 2], accessFlags := 1041 }

/-- the primitive int -/
def k25 : Class := { plain "int" none with kind := .primitive 'I', accessFlags := 0x411 }
/-- [I -/
def k26 : Class := { plain "[I" (some 0) with kind := .array 25 .int, interfaces := #[20, 2], accessFlags := 1041 }

def heap : Heap := #[{ cls := 7, slots := #[.long 0, .int 1, .null, .int 0, .null, .int 0, .int 0], vm := .statics 7 },
  { cls := 16, slots := #[.null, .null, .null], vm := .statics 16 }]
def classes : Array Class := #[k0, k1, k2, k3, k4, k5, k6, k7, k8, k9, k10, k11, k12, k13, k14, k15, k16, k17, k18, k19, k20, k21, k22, k23, k24, k25, k26]
def interned : List (Array UInt16 × Addr) := []
def slotsUsed : Nat := 10
def theMethod : MethodId := ⟨1, 3⟩
def args0 : Array Value := #[.int 5, .int 6, .int 7, .int 1, .int 2, .int 3]
def aboutOver (below : List Frame) : State where
  vm := { classes := classes, interned := interned.toArray }
  heap := heap
  slotsUsed := slotsUsed
  threads := #[{ frames := .invoking theMethod args0 :: below }]
def below0 : List Frame := [.native { method := ⟨0, 0⟩, args := #[] }]
def about1 : State := aboutOver below0
def p0 : Program := .bare "" "" ""
def e0 : Env := launch0.env 0 0 0
theorem w_frames : about1.frames = Frame.invoking theMethod args0 :: below0 := rfl
set_option maxRecDepth 65536 in
theorem w_args : argsFit about1.vm theMethod args0 = true := by decide +kernel
set_option maxRecDepth 65536 in
theorem w_heap : heapFits about1 = true := by decide +kernel
set_option maxRecDepth 65536 in
theorem w_runnable : about1.curStatus? = some .runnable := by decide +kernel
set_option maxRecDepth 65536 in
theorem w_alone : about1.alone = true := by decide +kernel
set_option maxRecDepth 65536 in
theorem w_named : about1.methodNamed? x = some theMethod := by decide +kernel
set_option maxRecDepth 65536 in
theorem w_hears : about1.hears theMethod below0 = true := by decide +kernel
set_option maxRecDepth 65536 in
theorem w_ripe : about1.ripe theMethod args0 below0 = true := by decide +kernel
theorem w_running : about1.status = .running := rfl
set_option maxRecDepth 65536 in
theorem w_room : about1.hasRoom e0.platform room_1 = true :=
  launch0.hasRoom_least _ room_1 (by decide +kernel) (by decide +kernel) (by decide +kernel) (by decide +kernel) (by decide +kernel) (by decide +kernel)
theorem allAtoms_all (ts : List Jvm.Cond) (a : Array Jvm.Value) (st : Jvm.State) : (allAtoms ts).before a st = ts.all (fun c => c.before a st) := by
  induction ts with
  | nil => rfl
  | cons c t ih =>
    show (Jvm.Cond.and c (allAtoms t)).before a st = _
    rw [Jvm.Cond.before_and, ih, List.all_cons]
def words1 : List Jvm.Cond := Jvm.Cond.code x code maxLocals ret :: tables_1
/-- a 'code' word, met by the world's own term for the bytes: nothing is compared byte by byte -/
theorem code_word {y : MethodName} {bytes : ByteArray} {mx : Nat} {rt : Option FieldType} {a : Array Value} {s : State} {m : MethodId} {meth : Method} {c : Code} (h1 : s.methodNamed? y = some m) (h2 : s.vm.method? m = some meth) (h3 : meth.code = some c) (h4 : c.code = bytes)
    (h5 : (c.maxLocals == mx && c.exceptionTable.isEmpty && decide (c.maxStack ≤ mostOperands) && decide (meth.sig.returnType = rt) && !meth.locks && decide (parseMethodDescriptor y.desc = some meth.sig)) = true) : (Jvm.Cond.code y bytes mx rt).before a s = true := by
  simp only [Bool.and_eq_true, beq_iff_eq, Bool.not_eq_true', decide_eq_true_eq] at h5
  obtain ⟨⟨⟨⟨⟨g1, g2⟩, g3⟩, g4⟩, g5⟩, g6⟩ := h5
  simp [Cond.before, Cond.holds, Cond.value, h1, h2, h3, h4, g1, g2, g3, g4, g5, g6]
def isCode : Jvm.Cond → Bool
  | .code _ _ _ _ => true
  | _ => false
theorem all_split {L : List Jvm.Cond} {P : Jvm.Cond → Bool} (h1 : L.all (fun c => isCode c || P c) = true) (h2 : ∀ c ∈ L.filter isCode, P c = true) : L.all P = true := by
  refine List.all_eq_true.mpr fun c hc => ?_
  have h := List.all_eq_true.mp h1 c hc
  rcases Bool.eq_false_or_eq_true (isCode c) with hi | hi
  · exact h2 c (List.mem_filter.mpr ⟨hc, hi⟩)
  · simpa [hi] using h
set_option maxRecDepth 65536 in
theorem w_c0 : (Jvm.Cond.code x code maxLocals ret).before args0 about1 = true := code_word (m := ⟨1, 3⟩) (meth := k1m3) (c := k1c3) (by decide +kernel) rfl rfl rfl (by decide +kernel)
set_option maxRecDepth 65536 in
theorem w_c1 : (Jvm.Cond.code ({ cls := "com/example/wheal/wheal/ParameterUnquotedPinLaw", name := "ch", desc := "(I)C" } : Jvm.MethodName) method_2_code (2 : Nat) (Option.some Jvm.ClassFile.FieldType.char)).before args0 about1 = true := code_word (m := ⟨1, 1⟩) (meth := k1m1) (c := k1c1) (by decide +kernel) rfl rfl rfl (by decide +kernel)
set_option maxRecDepth 65536 in
theorem w_c2 : (Jvm.Cond.code ({ cls := "com/example/wheal/wheal/ParameterUnquotedPinLaw", name := "str", desc := "(ICCCCC)Ljava/lang/String;" } : Jvm.MethodName) method_3_code (6 : Nat) (Option.some (Jvm.ClassFile.FieldType.object "java/lang/String"))).before args0 about1 = true := code_word (m := ⟨1, 2⟩) (meth := k1m2) (c := k1c2) (by decide +kernel) rfl rfl rfl (by decide +kernel)
set_option maxRecDepth 65536 in
theorem w_c3 : (Jvm.Cond.code ({ cls := "java/lang/String", name := "<init>", desc := "([C)V" } : Jvm.MethodName) jdk_42_method_3_code (2 : Nat) (Option.none : Option Jvm.ClassFile.FieldType)).before args0 about1 = true := code_word (m := ⟨7, 1⟩) (meth := k7m1) (c := k7c1) (by decide +kernel) rfl rfl rfl (by decide +kernel)
set_option maxRecDepth 65536 in
theorem w_c4 : (Jvm.Cond.code ({ cls := "java/lang/String", name := "<init>", desc := "([CIILjava/lang/Void;)V" } : Jvm.MethodName) jdk_42_method_149_code (6 : Nat) (Option.none : Option Jvm.ClassFile.FieldType)).before args0 about1 = true := code_word (m := ⟨7, 8⟩) (meth := k7m8) (c := k7c8) (by decide +kernel) rfl rfl rfl (by decide +kernel)
set_option maxRecDepth 65536 in
theorem w_c5 : (Jvm.Cond.code ({ cls := "java/lang/Object", name := "<init>", desc := "()V" } : Jvm.MethodName) object_method_1_code (1 : Nat) (Option.none : Option Jvm.ClassFile.FieldType)).before args0 about1 = true := code_word (m := ⟨0, 0⟩) (meth := k0m0) (c := k0c0) (by decide +kernel) rfl rfl rfl (by decide +kernel)
set_option maxRecDepth 65536 in
theorem w_c6 : (Jvm.Cond.code ({ cls := "com/example/wheal/wheal/FieldValues$Parameter", name := "<init>", desc := "(Ljava/lang/String;Ljava/lang/String;)V" } : Jvm.MethodName) prog_2_method_1_code (3 : Nat) (Option.none : Option Jvm.ClassFile.FieldType)).before args0 about1 = true := code_word (m := ⟨9, 0⟩) (meth := k9m0) (c := k9c0) (by decide +kernel) rfl rfl rfl (by decide +kernel)
set_option maxRecDepth 65536 in
theorem w_c7 : (Jvm.Cond.code ({ cls := "java/lang/Record", name := "<init>", desc := "()V" } : Jvm.MethodName) jdk_30_method_1_code (1 : Nat) (Option.none : Option Jvm.ClassFile.FieldType)).before args0 about1 = true := code_word (m := ⟨8, 0⟩) (meth := k8m0) (c := k8c0) (by decide +kernel) rfl rfl rfl (by decide +kernel)
set_option maxRecDepth 65536 in
theorem w_c8 : (Jvm.Cond.code ({ cls := "com/example/wheal/wheal/FieldValues$Parameter", name := "unquoted", desc := "()Ljava/lang/String;" } : Jvm.MethodName) prog_2_method_3_code (6 : Nat) (Option.some (Jvm.ClassFile.FieldType.object "java/lang/String"))).before args0 about1 = true := code_word (m := ⟨9, 1⟩) (meth := k9m1) (c := k9c1) (by decide +kernel) rfl rfl rfl (by decide +kernel)
set_option maxRecDepth 65536 in
theorem w_c9 : (Jvm.Cond.code ({ cls := "java/lang/String", name := "startsWith", desc := "(Ljava/lang/String;)Z" } : Jvm.MethodName) jdk_42_method_76_code (2 : Nat) (Option.some Jvm.ClassFile.FieldType.boolean)).before args0 about1 = true := code_word (m := ⟨7, 7⟩) (meth := k7m7) (c := k7c7) (by decide +kernel) rfl rfl rfl (by decide +kernel)
set_option maxRecDepth 65536 in
theorem w_c10 : (Jvm.Cond.code ({ cls := "java/lang/String", name := "startsWith", desc := "(Ljava/lang/String;I)Z" } : Jvm.MethodName) jdk_42_method_75_code (8 : Nat) (Option.some Jvm.ClassFile.FieldType.boolean)).before args0 about1 = true := code_word (m := ⟨7, 6⟩) (meth := k7m6) (c := k7c6) (by decide +kernel) rfl rfl rfl (by decide +kernel)
set_option maxRecDepth 65536 in
theorem w_c11 : (Jvm.Cond.code ({ cls := "java/lang/String", name := "length", desc := "()I" } : Jvm.MethodName) jdk_42_method_54_code (1 : Nat) (Option.some Jvm.ClassFile.FieldType.int)).before args0 about1 = true := code_word (m := ⟨7, 3⟩) (meth := k7m3) (c := k7c3) (by decide +kernel) rfl rfl rfl (by decide +kernel)
set_option maxRecDepth 65536 in
theorem w_c12 : (Jvm.Cond.code ({ cls := "java/lang/String", name := "coder", desc := "()B" } : Jvm.MethodName) jdk_42_method_152_code (1 : Nat) (Option.some Jvm.ClassFile.FieldType.byte)).before args0 about1 = true := code_word (m := ⟨7, 10⟩) (meth := k7m10) (c := k7c10) (by decide +kernel) rfl rfl rfl (by decide +kernel)
set_option maxRecDepth 65536 in
theorem w_c13 : (Jvm.Cond.code ({ cls := "java/lang/String", name := "equals", desc := "(Ljava/lang/Object;)Z" } : Jvm.MethodName) jdk_42_method_66_code (3 : Nat) (Option.some Jvm.ClassFile.FieldType.boolean)).before args0 about1 = true := code_word (m := ⟨7, 5⟩) (meth := k7m5) (c := k7c5) (by decide +kernel) rfl rfl rfl (by decide +kernel)
set_option maxRecDepth 65536 in
theorem w_c14 : (Jvm.Cond.code ({ cls := "java/lang/StringUTF16", name := "compress", desc := "([CII)[B" } : Jvm.MethodName) jdk_52_method_16_code (6 : Nat) (Option.some (Jvm.ClassFile.FieldType.array Jvm.ClassFile.FieldType.byte))).before args0 about1 = true := code_word (m := ⟨10, 2⟩) (meth := k10m2) (c := k10c2) (by decide +kernel) rfl rfl rfl (by decide +kernel)
set_option maxRecDepth 65536 in
theorem w_c15 : (Jvm.Cond.code ({ cls := "java/lang/StringUTF16", name := "compress", desc := "([CI[BII)I" } : Jvm.MethodName) jdk_52_method_21_code (7 : Nat) (Option.some Jvm.ClassFile.FieldType.int)).before args0 about1 = true := code_word (m := ⟨10, 3⟩) (meth := k10m3) (c := k10c3) (by decide +kernel) rfl rfl rfl (by decide +kernel)
set_option maxRecDepth 65536 in
theorem w_c16 : (Jvm.Cond.code ({ cls := "java/lang/StringUTF16", name := "coderFromArrayLen", desc := "([BI)B" } : Jvm.MethodName) jdk_52_method_15_code (2 : Nat) (Option.some Jvm.ClassFile.FieldType.byte)).before args0 about1 = true := code_word (m := ⟨10, 1⟩) (meth := k10m1) (c := k10c1) (by decide +kernel) rfl rfl rfl (by decide +kernel)
set_option maxRecDepth 65536 in
theorem w_c17 : (Jvm.Cond.code ({ cls := "jdk/internal/util/ArraysSupport", name := "mismatch", desc := "([BI[BII)I" } : Jvm.MethodName) jdk_48_method_14_code (8 : Nat) (Option.some Jvm.ClassFile.FieldType.int)).before args0 about1 = true := code_word (m := ⟨11, 1⟩) (meth := k11m1) (c := k11c1) (by decide +kernel) rfl rfl rfl (by decide +kernel)
set_option maxRecDepth 65536 in
theorem w_c18 : (Jvm.Cond.code ({ cls := "java/lang/StringBuilder", name := "<init>", desc := "()V" } : Jvm.MethodName) jdk_67_method_1_code (1 : Nat) (Option.none : Option Jvm.ClassFile.FieldType)).before args0 about1 = true := code_word (m := ⟨14, 0⟩) (meth := k14m0) (c := k14c0) (by decide +kernel) rfl rfl rfl (by decide +kernel)
set_option maxRecDepth 65536 in
theorem w_c19 : (Jvm.Cond.code ({ cls := "java/lang/AbstractStringBuilder", name := "<init>", desc := "(I)V" } : Jvm.MethodName) jdk_68_method_2_code (2 : Nat) (Option.none : Option Jvm.ClassFile.FieldType)).before args0 about1 = true := code_word (m := ⟨13, 1⟩) (meth := k13m1) (c := k13c1) (by decide +kernel) rfl rfl rfl (by decide +kernel)
set_option maxRecDepth 65536 in
theorem w_c20 : (Jvm.Cond.code ({ cls := "java/lang/String", name := "charAt", desc := "(I)C" } : Jvm.MethodName) jdk_42_method_56_code (2 : Nat) (Option.some Jvm.ClassFile.FieldType.char)).before args0 about1 = true := code_word (m := ⟨7, 4⟩) (meth := k7m4) (c := k7c4) (by decide +kernel) rfl rfl rfl (by decide +kernel)
set_option maxRecDepth 65536 in
theorem w_c21 : (Jvm.Cond.code ({ cls := "java/lang/String", name := "isLatin1", desc := "()Z" } : Jvm.MethodName) jdk_42_method_154_code (1 : Nat) (Option.some Jvm.ClassFile.FieldType.boolean)).before args0 about1 = true := code_word (m := ⟨7, 11⟩) (meth := k7m11) (c := k7c11) (by decide +kernel) rfl rfl rfl (by decide +kernel)
set_option maxRecDepth 65536 in
theorem w_c22 : (Jvm.Cond.code ({ cls := "java/lang/StringLatin1", name := "charAt", desc := "([BI)C" } : Jvm.MethodName) jdk_43_method_2_code (2 : Nat) (Option.some Jvm.ClassFile.FieldType.char)).before args0 about1 = true := code_word (m := ⟨15, 1⟩) (meth := k15m1) (c := k15c1) (by decide +kernel) rfl rfl rfl (by decide +kernel)
set_option maxRecDepth 65536 in
theorem w_c23 : (Jvm.Cond.code ({ cls := "java/lang/String", name := "checkIndex", desc := "(II)V" } : Jvm.MethodName) jdk_42_method_155_code (2 : Nat) (Option.none : Option Jvm.ClassFile.FieldType)).before args0 about1 = true := code_word (m := ⟨7, 12⟩) (meth := k7m12) (c := k7c12) (by decide +kernel) rfl rfl rfl (by decide +kernel)
set_option maxRecDepth 65536 in
theorem w_c24 : (Jvm.Cond.code ({ cls := "jdk/internal/util/Preconditions", name := "checkIndex", desc := "(IILjava/util/function/BiFunction;)I" } : Jvm.MethodName) jdk_41_method_11_code (3 : Nat) (Option.some Jvm.ClassFile.FieldType.int)).before args0 about1 = true := code_word (m := ⟨16, 1⟩) (meth := k16m1) (c := k16c1) (by decide +kernel) rfl rfl rfl (by decide +kernel)
set_option maxRecDepth 65536 in
theorem w_c25 : (Jvm.Cond.code ({ cls := "java/lang/StringBuilder", name := "append", desc := "(C)Ljava/lang/StringBuilder;" } : Jvm.MethodName) jdk_67_method_14_code (2 : Nat) (Option.some (Jvm.ClassFile.FieldType.object "java/lang/StringBuilder"))).before args0 about1 = true := code_word (m := ⟨14, 1⟩) (meth := k14m1) (c := k14c1) (by decide +kernel) rfl rfl rfl (by decide +kernel)
set_option maxRecDepth 65536 in
theorem w_c26 : (Jvm.Cond.code ({ cls := "java/lang/AbstractStringBuilder", name := "append", desc := "(C)Ljava/lang/AbstractStringBuilder;" } : Jvm.MethodName) jdk_68_method_31_code (2 : Nat) (Option.some (Jvm.ClassFile.FieldType.object "java/lang/AbstractStringBuilder"))).before args0 about1 = true := code_word (m := ⟨13, 4⟩) (meth := k13m4) (c := k13c4) (by decide +kernel) rfl rfl rfl (by decide +kernel)
set_option maxRecDepth 65536 in
theorem w_c27 : (Jvm.Cond.code ({ cls := "java/lang/AbstractStringBuilder", name := "ensureCapacityInternal", desc := "(I)V" } : Jvm.MethodName) jdk_68_method_9_code (3 : Nat) (Option.none : Option Jvm.ClassFile.FieldType)).before args0 about1 = true := code_word (m := ⟨13, 3⟩) (meth := k13m3) (c := k13c3) (by decide +kernel) rfl rfl rfl (by decide +kernel)
set_option maxRecDepth 65536 in
theorem w_c28 : (Jvm.Cond.code ({ cls := "java/lang/AbstractStringBuilder", name := "isLatin1", desc := "()Z" } : Jvm.MethodName) jdk_68_method_68_code (1 : Nat) (Option.some Jvm.ClassFile.FieldType.boolean)).before args0 about1 = true := code_word (m := ⟨13, 6⟩) (meth := k13m6) (c := k13c6) (by decide +kernel) rfl rfl rfl (by decide +kernel)
set_option maxRecDepth 65536 in
theorem w_c29 : (Jvm.Cond.code ({ cls := "java/lang/StringLatin1", name := "canEncode", desc := "(C)Z" } : Jvm.MethodName) jdk_43_method_3_code (1 : Nat) (Option.some Jvm.ClassFile.FieldType.boolean)).before args0 about1 = true := code_word (m := ⟨15, 2⟩) (meth := k15m2) (c := k15c2) (by decide +kernel) rfl rfl rfl (by decide +kernel)
set_option maxRecDepth 65536 in
theorem w_c30 : (Jvm.Cond.code ({ cls := "java/lang/StringBuilder", name := "toString", desc := "()Ljava/lang/String;" } : Jvm.MethodName) jdk_67_method_42_code (1 : Nat) (Option.some (Jvm.ClassFile.FieldType.object "java/lang/String"))).before args0 about1 = true := code_word (m := ⟨14, 2⟩) (meth := k14m2) (c := k14c2) (by decide +kernel) rfl rfl rfl (by decide +kernel)
set_option maxRecDepth 65536 in
theorem w_c31 : (Jvm.Cond.code ({ cls := "java/lang/String", name := "<init>", desc := "(Ljava/lang/StringBuilder;)V" } : Jvm.MethodName) jdk_42_method_53_code (2 : Nat) (Option.none : Option Jvm.ClassFile.FieldType)).before args0 about1 = true := code_word (m := ⟨7, 2⟩) (meth := k7m2) (c := k7c2) (by decide +kernel) rfl rfl rfl (by decide +kernel)
set_option maxRecDepth 65536 in
theorem w_c32 : (Jvm.Cond.code ({ cls := "java/lang/String", name := "<init>", desc := "(Ljava/lang/AbstractStringBuilder;Ljava/lang/Void;)V" } : Jvm.MethodName) jdk_42_method_150_code (5 : Nat) (Option.none : Option Jvm.ClassFile.FieldType)).before args0 about1 = true := code_word (m := ⟨7, 9⟩) (meth := k7m9) (c := k7c9) (by decide +kernel) rfl rfl rfl (by decide +kernel)
set_option maxRecDepth 65536 in
theorem w_c33 : (Jvm.Cond.code ({ cls := "java/lang/AbstractStringBuilder", name := "getValue", desc := "()[B" } : Jvm.MethodName) jdk_68_method_64_code (1 : Nat) (Option.some (Jvm.ClassFile.FieldType.array Jvm.ClassFile.FieldType.byte))).before args0 about1 = true := code_word (m := ⟨13, 5⟩) (meth := k13m5) (c := k13c5) (by decide +kernel) rfl rfl rfl (by decide +kernel)
set_option maxRecDepth 65536 in
theorem w_c34 : (Jvm.Cond.code ({ cls := "java/lang/StringBuilder", name := "length", desc := "()I" } : Jvm.MethodName) jdk_67_method_93_code (1 : Nat) (Option.some Jvm.ClassFile.FieldType.int)).before args0 about1 = true := code_word (m := ⟨14, 3⟩) (meth := k14m3) (c := k14c3) (by decide +kernel) rfl rfl rfl (by decide +kernel)
set_option maxRecDepth 65536 in
theorem w_c35 : (Jvm.Cond.code ({ cls := "java/lang/AbstractStringBuilder", name := "length", desc := "()I" } : Jvm.MethodName) jdk_68_method_6_code (1 : Nat) (Option.some Jvm.ClassFile.FieldType.int)).before args0 about1 = true := code_word (m := ⟨13, 2⟩) (meth := k13m2) (c := k13c2) (by decide +kernel) rfl rfl rfl (by decide +kernel)
set_option maxRecDepth 65536 in
theorem w_c36 : (Jvm.Cond.code ({ cls := "java/util/Arrays", name := "copyOfRange", desc := "([BII)[B" } : Jvm.MethodName) jdk_65_method_132_code (3 : Nat) (Option.some (Jvm.ClassFile.FieldType.array Jvm.ClassFile.FieldType.byte))).before args0 about1 = true := code_word (m := ⟨17, 2⟩) (meth := k17m2) (c := k17c2) (by decide +kernel) rfl rfl rfl (by decide +kernel)
set_option maxRecDepth 65536 in
theorem w_c37 : (Jvm.Cond.code ({ cls := "java/util/Arrays", name := "copyOfRangeByte", desc := "([BII)[B" } : Jvm.MethodName) jdk_65_method_133_code (5 : Nat) (Option.some (Jvm.ClassFile.FieldType.array Jvm.ClassFile.FieldType.byte))).before args0 about1 = true := code_word (m := ⟨17, 3⟩) (meth := k17m3) (c := k17c3) (by decide +kernel) rfl rfl rfl (by decide +kernel)
set_option maxRecDepth 65536 in
theorem w_c38 : (Jvm.Cond.code ({ cls := "java/util/Arrays", name := "checkLength", desc := "(II)V" } : Jvm.MethodName) jdk_65_method_131_code (2 : Nat) (Option.none : Option Jvm.ClassFile.FieldType)).before args0 about1 = true := code_word (m := ⟨17, 1⟩) (meth := k17m1) (c := k17c1) (by decide +kernel) rfl rfl rfl (by decide +kernel)
set_option maxRecDepth 65536 in
theorem w_c39 : (Jvm.Cond.code ({ cls := "java/lang/Math", name := "min", desc := "(II)I" } : Jvm.MethodName) jdk_29_method_69_code (2 : Nat) (Option.some Jvm.ClassFile.FieldType.int)).before args0 about1 = true := code_word (m := ⟨18, 2⟩) (meth := k18m2) (c := k18c2) (by decide +kernel) rfl rfl rfl (by decide +kernel)
set_option maxRecDepth 65536 in
theorem w_c40 : (Jvm.Cond.code ({ cls := "java/lang/Math", name := "max", desc := "(II)I" } : Jvm.MethodName) jdk_29_method_65_code (2 : Nat) (Option.some Jvm.ClassFile.FieldType.int)).before args0 about1 = true := code_word (m := ⟨18, 1⟩) (meth := k18m1) (c := k18c1) (by decide +kernel) rfl rfl rfl (by decide +kernel)
set_option maxRecDepth 65536 in
theorem w_c41 : (Jvm.Cond.code ({ cls := "java/lang/StringLatin1", name := "equals", desc := "([B[B)Z" } : Jvm.MethodName) jdk_43_method_13_code (3 : Nat) (Option.some Jvm.ClassFile.FieldType.boolean)).before args0 about1 = true := code_word (m := ⟨15, 3⟩) (meth := k15m3) (c := k15c3) (by decide +kernel) rfl rfl rfl (by decide +kernel)
def codes1 : List Jvm.Cond := [Jvm.Cond.code x code maxLocals ret, Jvm.Cond.code ({ cls := "com/example/wheal/wheal/ParameterUnquotedPinLaw", name := "ch", desc := "(I)C" } : Jvm.MethodName) method_2_code (2 : Nat) (Option.some Jvm.ClassFile.FieldType.char), Jvm.Cond.code ({ cls := "com/example/wheal/wheal/ParameterUnquotedPinLaw", name := "str", desc := "(ICCCCC)Ljava/lang/String;" } : Jvm.MethodName) method_3_code (6 : Nat) (Option.some (Jvm.ClassFile.FieldType.object "java/lang/String")), Jvm.Cond.code ({ cls := "java/lang/String", name := "<init>", desc := "([C)V" } : Jvm.MethodName) jdk_42_method_3_code (2 : Nat) (Option.none : Option Jvm.ClassFile.FieldType), Jvm.Cond.code ({ cls := "java/lang/String", name := "<init>", desc := "([CIILjava/lang/Void;)V" } : Jvm.MethodName) jdk_42_method_149_code (6 : Nat) (Option.none : Option Jvm.ClassFile.FieldType), Jvm.Cond.code ({ cls := "java/lang/Object", name := "<init>", desc := "()V" } : Jvm.MethodName) object_method_1_code (1 : Nat) (Option.none : Option Jvm.ClassFile.FieldType), Jvm.Cond.code ({ cls := "com/example/wheal/wheal/FieldValues$Parameter", name := "<init>", desc := "(Ljava/lang/String;Ljava/lang/String;)V" } : Jvm.MethodName) prog_2_method_1_code (3 : Nat) (Option.none : Option Jvm.ClassFile.FieldType), Jvm.Cond.code ({ cls := "java/lang/Record", name := "<init>", desc := "()V" } : Jvm.MethodName) jdk_30_method_1_code (1 : Nat) (Option.none : Option Jvm.ClassFile.FieldType), Jvm.Cond.code ({ cls := "com/example/wheal/wheal/FieldValues$Parameter", name := "unquoted", desc := "()Ljava/lang/String;" } : Jvm.MethodName) prog_2_method_3_code (6 : Nat) (Option.some (Jvm.ClassFile.FieldType.object "java/lang/String")), Jvm.Cond.code ({ cls := "java/lang/String", name := "startsWith", desc := "(Ljava/lang/String;)Z" } : Jvm.MethodName) jdk_42_method_76_code (2 : Nat) (Option.some Jvm.ClassFile.FieldType.boolean), Jvm.Cond.code ({ cls := "java/lang/String", name := "startsWith", desc := "(Ljava/lang/String;I)Z" } : Jvm.MethodName) jdk_42_method_75_code (8 : Nat) (Option.some Jvm.ClassFile.FieldType.boolean), Jvm.Cond.code ({ cls := "java/lang/String", name := "length", desc := "()I" } : Jvm.MethodName) jdk_42_method_54_code (1 : Nat) (Option.some Jvm.ClassFile.FieldType.int), Jvm.Cond.code ({ cls := "java/lang/String", name := "coder", desc := "()B" } : Jvm.MethodName) jdk_42_method_152_code (1 : Nat) (Option.some Jvm.ClassFile.FieldType.byte), Jvm.Cond.code ({ cls := "java/lang/String", name := "equals", desc := "(Ljava/lang/Object;)Z" } : Jvm.MethodName) jdk_42_method_66_code (3 : Nat) (Option.some Jvm.ClassFile.FieldType.boolean), Jvm.Cond.code ({ cls := "java/lang/StringUTF16", name := "compress", desc := "([CII)[B" } : Jvm.MethodName) jdk_52_method_16_code (6 : Nat) (Option.some (Jvm.ClassFile.FieldType.array Jvm.ClassFile.FieldType.byte)), Jvm.Cond.code ({ cls := "java/lang/StringUTF16", name := "compress", desc := "([CI[BII)I" } : Jvm.MethodName) jdk_52_method_21_code (7 : Nat) (Option.some Jvm.ClassFile.FieldType.int), Jvm.Cond.code ({ cls := "java/lang/StringUTF16", name := "coderFromArrayLen", desc := "([BI)B" } : Jvm.MethodName) jdk_52_method_15_code (2 : Nat) (Option.some Jvm.ClassFile.FieldType.byte), Jvm.Cond.code ({ cls := "jdk/internal/util/ArraysSupport", name := "mismatch", desc := "([BI[BII)I" } : Jvm.MethodName) jdk_48_method_14_code (8 : Nat) (Option.some Jvm.ClassFile.FieldType.int), Jvm.Cond.code ({ cls := "java/lang/StringBuilder", name := "<init>", desc := "()V" } : Jvm.MethodName) jdk_67_method_1_code (1 : Nat) (Option.none : Option Jvm.ClassFile.FieldType), Jvm.Cond.code ({ cls := "java/lang/AbstractStringBuilder", name := "<init>", desc := "(I)V" } : Jvm.MethodName) jdk_68_method_2_code (2 : Nat) (Option.none : Option Jvm.ClassFile.FieldType), Jvm.Cond.code ({ cls := "java/lang/String", name := "charAt", desc := "(I)C" } : Jvm.MethodName) jdk_42_method_56_code (2 : Nat) (Option.some Jvm.ClassFile.FieldType.char), Jvm.Cond.code ({ cls := "java/lang/String", name := "isLatin1", desc := "()Z" } : Jvm.MethodName) jdk_42_method_154_code (1 : Nat) (Option.some Jvm.ClassFile.FieldType.boolean), Jvm.Cond.code ({ cls := "java/lang/StringLatin1", name := "charAt", desc := "([BI)C" } : Jvm.MethodName) jdk_43_method_2_code (2 : Nat) (Option.some Jvm.ClassFile.FieldType.char), Jvm.Cond.code ({ cls := "java/lang/String", name := "checkIndex", desc := "(II)V" } : Jvm.MethodName) jdk_42_method_155_code (2 : Nat) (Option.none : Option Jvm.ClassFile.FieldType), Jvm.Cond.code ({ cls := "jdk/internal/util/Preconditions", name := "checkIndex", desc := "(IILjava/util/function/BiFunction;)I" } : Jvm.MethodName) jdk_41_method_11_code (3 : Nat) (Option.some Jvm.ClassFile.FieldType.int), Jvm.Cond.code ({ cls := "java/lang/StringBuilder", name := "append", desc := "(C)Ljava/lang/StringBuilder;" } : Jvm.MethodName) jdk_67_method_14_code (2 : Nat) (Option.some (Jvm.ClassFile.FieldType.object "java/lang/StringBuilder")), Jvm.Cond.code ({ cls := "java/lang/AbstractStringBuilder", name := "append", desc := "(C)Ljava/lang/AbstractStringBuilder;" } : Jvm.MethodName) jdk_68_method_31_code (2 : Nat) (Option.some (Jvm.ClassFile.FieldType.object "java/lang/AbstractStringBuilder")), Jvm.Cond.code ({ cls := "java/lang/AbstractStringBuilder", name := "ensureCapacityInternal", desc := "(I)V" } : Jvm.MethodName) jdk_68_method_9_code (3 : Nat) (Option.none : Option Jvm.ClassFile.FieldType), Jvm.Cond.code ({ cls := "java/lang/AbstractStringBuilder", name := "isLatin1", desc := "()Z" } : Jvm.MethodName) jdk_68_method_68_code (1 : Nat) (Option.some Jvm.ClassFile.FieldType.boolean), Jvm.Cond.code ({ cls := "java/lang/StringLatin1", name := "canEncode", desc := "(C)Z" } : Jvm.MethodName) jdk_43_method_3_code (1 : Nat) (Option.some Jvm.ClassFile.FieldType.boolean), Jvm.Cond.code ({ cls := "java/lang/StringBuilder", name := "toString", desc := "()Ljava/lang/String;" } : Jvm.MethodName) jdk_67_method_42_code (1 : Nat) (Option.some (Jvm.ClassFile.FieldType.object "java/lang/String")), Jvm.Cond.code ({ cls := "java/lang/String", name := "<init>", desc := "(Ljava/lang/StringBuilder;)V" } : Jvm.MethodName) jdk_42_method_53_code (2 : Nat) (Option.none : Option Jvm.ClassFile.FieldType), Jvm.Cond.code ({ cls := "java/lang/String", name := "<init>", desc := "(Ljava/lang/AbstractStringBuilder;Ljava/lang/Void;)V" } : Jvm.MethodName) jdk_42_method_150_code (5 : Nat) (Option.none : Option Jvm.ClassFile.FieldType), Jvm.Cond.code ({ cls := "java/lang/AbstractStringBuilder", name := "getValue", desc := "()[B" } : Jvm.MethodName) jdk_68_method_64_code (1 : Nat) (Option.some (Jvm.ClassFile.FieldType.array Jvm.ClassFile.FieldType.byte)), Jvm.Cond.code ({ cls := "java/lang/StringBuilder", name := "length", desc := "()I" } : Jvm.MethodName) jdk_67_method_93_code (1 : Nat) (Option.some Jvm.ClassFile.FieldType.int), Jvm.Cond.code ({ cls := "java/lang/AbstractStringBuilder", name := "length", desc := "()I" } : Jvm.MethodName) jdk_68_method_6_code (1 : Nat) (Option.some Jvm.ClassFile.FieldType.int), Jvm.Cond.code ({ cls := "java/util/Arrays", name := "copyOfRange", desc := "([BII)[B" } : Jvm.MethodName) jdk_65_method_132_code (3 : Nat) (Option.some (Jvm.ClassFile.FieldType.array Jvm.ClassFile.FieldType.byte)), Jvm.Cond.code ({ cls := "java/util/Arrays", name := "copyOfRangeByte", desc := "([BII)[B" } : Jvm.MethodName) jdk_65_method_133_code (5 : Nat) (Option.some (Jvm.ClassFile.FieldType.array Jvm.ClassFile.FieldType.byte)), Jvm.Cond.code ({ cls := "java/util/Arrays", name := "checkLength", desc := "(II)V" } : Jvm.MethodName) jdk_65_method_131_code (2 : Nat) (Option.none : Option Jvm.ClassFile.FieldType), Jvm.Cond.code ({ cls := "java/lang/Math", name := "min", desc := "(II)I" } : Jvm.MethodName) jdk_29_method_69_code (2 : Nat) (Option.some Jvm.ClassFile.FieldType.int), Jvm.Cond.code ({ cls := "java/lang/Math", name := "max", desc := "(II)I" } : Jvm.MethodName) jdk_29_method_65_code (2 : Nat) (Option.some Jvm.ClassFile.FieldType.int), Jvm.Cond.code ({ cls := "java/lang/StringLatin1", name := "equals", desc := "([B[B)Z" } : Jvm.MethodName) jdk_43_method_13_code (3 : Nat) (Option.some Jvm.ClassFile.FieldType.boolean)]
set_option maxRecDepth 65536 in
theorem codes_eq : words1.filter isCode = codes1 := rfl
theorem w_codes : ∀ c ∈ words1.filter isCode, c.before args0 about1 = true := by
  rw [codes_eq]
  intro c hc
  simp only [codes1, List.mem_cons, List.not_mem_nil, or_false] at hc
  rcases hc with rfl | rfl | rfl | rfl | rfl | rfl | rfl | rfl | rfl | rfl | rfl | rfl | rfl | rfl | rfl | rfl | rfl | rfl | rfl | rfl | rfl | rfl | rfl | rfl | rfl | rfl | rfl | rfl | rfl | rfl | rfl | rfl | rfl | rfl | rfl | rfl | rfl | rfl | rfl | rfl | rfl | rfl
  · exact w_c0
  · exact w_c1
  · exact w_c2
  · exact w_c3
  · exact w_c4
  · exact w_c5
  · exact w_c6
  · exact w_c7
  · exact w_c8
  · exact w_c9
  · exact w_c10
  · exact w_c11
  · exact w_c12
  · exact w_c13
  · exact w_c14
  · exact w_c15
  · exact w_c16
  · exact w_c17
  · exact w_c18
  · exact w_c19
  · exact w_c20
  · exact w_c21
  · exact w_c22
  · exact w_c23
  · exact w_c24
  · exact w_c25
  · exact w_c26
  · exact w_c27
  · exact w_c28
  · exact w_c29
  · exact w_c30
  · exact w_c31
  · exact w_c32
  · exact w_c33
  · exact w_c34
  · exact w_c35
  · exact w_c36
  · exact w_c37
  · exact w_c38
  · exact w_c39
  · exact w_c40
  · exact w_c41
set_option maxRecDepth 65536 in
theorem w_t1 : (words1.take 24).all (fun c => isCode c || c.before args0 about1) = true := by decide +kernel
set_option maxRecDepth 65536 in
theorem w_t2 : ((words1.drop 24).take 24).all (fun c => isCode c || c.before args0 about1) = true := by decide +kernel
set_option maxRecDepth 65536 in
theorem w_t3 : (((words1.drop 24).drop 24).take 24).all (fun c => isCode c || c.before args0 about1) = true := by decide +kernel
set_option maxRecDepth 65536 in
theorem w_t4 : ((((words1.drop 24).drop 24).drop 24).take 24).all (fun c => isCode c || c.before args0 about1) = true := by decide +kernel
set_option maxRecDepth 65536 in
theorem w_t5 : (((((words1.drop 24).drop 24).drop 24).drop 24).take 24).all (fun c => isCode c || c.before args0 about1) = true := by decide +kernel
set_option maxRecDepth 65536 in
theorem w_t6 : ((((((words1.drop 24).drop 24).drop 24).drop 24).drop 24).take 24).all (fun c => isCode c || c.before args0 about1) = true := by decide +kernel
set_option maxRecDepth 65536 in
theorem w_t7 : (((((((words1.drop 24).drop 24).drop 24).drop 24).drop 24).drop 24).take 24).all (fun c => isCode c || c.before args0 about1) = true := by decide +kernel
set_option maxRecDepth 65536 in
theorem w_t8 : ((((((((words1.drop 24).drop 24).drop 24).drop 24).drop 24).drop 24).drop 24).take 24).all (fun c => isCode c || c.before args0 about1) = true := by decide +kernel
set_option maxRecDepth 65536 in
theorem w_t9 : ((((((((words1.drop 24).drop 24).drop 24).drop 24).drop 24).drop 24).drop 24).drop 24).all (fun c => isCode c || c.before args0 about1) = true := by decide +kernel
theorem w_tables : (allAtoms (Jvm.Cond.code x code maxLocals ret :: tables_1)).before args0 about1 = true := by
  rw [allAtoms_all]
  show words1.all (fun c => c.before args0 about1) = true
  refine all_split ?_ w_codes
  rw [← List.take_append_drop 24 words1, List.all_append, w_t1, ← List.take_append_drop 24 (words1.drop 24), List.all_append, w_t2, ← List.take_append_drop 24 ((words1.drop 24).drop 24), List.all_append, w_t3, ← List.take_append_drop 24 (((words1.drop 24).drop 24).drop 24), List.all_append, w_t4, ← List.take_append_drop 24 ((((words1.drop 24).drop 24).drop 24).drop 24), List.all_append, w_t5, ← List.take_append_drop 24 (((((words1.drop 24).drop 24).drop 24).drop 24).drop 24), List.all_append, w_t6, ← List.take_append_drop 24 ((((((words1.drop 24).drop 24).drop 24).drop 24).drop 24).drop 24), List.all_append, w_t7, ← List.take_append_drop 24 (((((((words1.drop 24).drop 24).drop 24).drop 24).drop 24).drop 24).drop 24), List.all_append, w_t8, w_t9]
  rfl
set_option maxRecDepth 65536 in
theorem w_rest : rest_1_c.before args0 about1 = true := by decide +kernel
set_option maxRecDepth 65536 in
theorem w_case : (Jvm.Cond.and given_1 narrow_1).before args0 about1 = true := by decide +kernel
set_option maxRecDepth 65536 in
theorem w_consts : constsHeld consts_1 about1 := Jvm.Lit.constsHeldB_iff.mp (by decide +kernel)
theorem w_applies : (headSpec (Jvm.Cond.code x code maxLocals ret :: tables_1) room_1).applies x e0.platform about1 = true :=
  (Spec.applies_iff w_frames).mpr ⟨w_running, w_runnable, w_alone, w_named, w_hears, w_ripe, w_room, w_tables⟩
theorem atStart : AtStart classFile x code maxLocals ret World_1 tables_1 room_1 Calls_1 rest_1 Pre_1 launch0 p0 e0 about1 theMethod args0 below0 :=
  ⟨lists_1, trivial, launch0.admits_env _ _ _, launch0.least_env, fairChoices_fair.cas, fairChoices_fair.clock, w_frames, w_args, w_heap, w_applies, ⟨w_consts, trivial⟩, w_rest, w_case⟩
end start1
theorem witness_1 : WitnessClaimed_1 := ⟨start1.p0, start1.e0, start1.about1, start1.theMethod, start1.args0, start1.below0, start1.atStart⟩
end Jvm.Pilot.@@N@@
