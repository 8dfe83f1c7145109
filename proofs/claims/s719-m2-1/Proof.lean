import JvmDerived
import JvmDerived.Pilot.@@N@@Statement
import JvmDerived.Pilot.@@N@@Code
set_option linter.unusedVariables false
set_option linter.unusedSimpArgs false
namespace Jvm.OwK
open Jvm Sem ClassFile Op Lib Jvm.Free Jvm.Stand Jvm.LawKit Jvm.RoadKit Bundle
/-- one decoded row of a body, with the place of the next one -/
def Dec (c : ByteArray) (pc : Nat) (i : Instr) (len n : Nat) : Prop := decode c pc = .ok (i, len) ∧ pc + len = n
/-- the run from here ends as F says -/
def Go (p : Program) (e : Env) (below : List Frame) (F : State → Prop) (T : State) (g : JFrame) : Prop := ∃ t, Steps p.tables e below (T.setTop g) t ∧ F t
/-- where a plain step can be taken -/
def Cx (p : Program) (below : List Frame) (m : MethodId) (c : Code) (cd : ByteArray) (T : State) : Prop := At T m c below ∧ p.tables.exec = Jvm.exec ∧ c.code = cd
def ush (x y : Int32) : Int32 := (x.toUInt32 >>> (y &&& 31).toUInt32).toInt32
def ushL (x : Int64) (y : Int32) : Int64 := (x.toUInt64 >>> (y &&& 0x3f).toInt64.toUInt64).toInt64
def lcm (x y : Int64) : Int32 := if x > y then 1 else if x = y then 0 else -1
section Plain
variable {p : Program} {e : Env} {below : List Frame} {F : State → Prop} {T : State} {m : MethodId} {c : Code} {cd : ByteArray} {pc n : Nat} {L : Array Slot} {r : List Value}
theorem Go.st {T' : State} {g g' : JFrame} (h : ∀ t, Steps p.tables e below (T'.setTop g') t → Steps p.tables e below (T.setTop g) t) (k : Go p e below F T' g') : Go p e below F T g := by
  obtain ⟨t, st, f⟩ := k; exact ⟨t, h t st, f⟩
theorem Go.run {T' : State} {g g' : JFrame} (h : Steps p.tables e below (T.setTop g) (T'.setTop g')) (k : Go p e below F T' g') : Go p e below F T g := by
  obtain ⟨t, st, f⟩ := k; exact ⟨t, h.trans st, f⟩
theorem Go.top {x y : Int32} (h : x = y) (k : Go p e below F T (mkF m pc L (.int y :: r))) : Go p e below F T (mkF m pc L (.int x :: r)) := h ▸ k
theorem Go.topL {x y : Int64} (h : x = y) (k : Go p e below F T (mkF m pc L (.long y :: r))) : Go p e below F T (mkF m pc L (.long x :: r)) := h ▸ k
theorem Go.aload_n (C : Cx p below m c cd T) {k : Fin 4} {v : Value} (d : Dec cd pc (.aload_n k) 1 n) (hl : L[k.val]? = some (.val v)) (hv : v.isRef = true)
    (k : Go p e below F T (mkF m n L (v :: r))) : Go p e below F T (mkF m pc L r) := by
  obtain ⟨t, st, f⟩ := k; obtain ⟨d, rfl⟩ := d
  exact ⟨t, XS.aloadN C.1 C.2.1 rfl (hb C.2.2 d) hl hv st, f⟩
theorem Go.aload (C : Cx p below m c cd T) {k : Nat} {v : Value} (d : Dec cd pc (.aload k) 2 n) (hl : L[k]? = some (.val v)) (hv : v.isRef = true)
    (k : Go p e below F T (mkF m n L (v :: r))) : Go p e below F T (mkF m pc L r) := by
  obtain ⟨t, st, f⟩ := k; obtain ⟨d, rfl⟩ := d
  exact ⟨t, XS.aload C.1 C.2.1 rfl (hb C.2.2 d) hl hv st, f⟩
theorem Go.iload_n (C : Cx p below m c cd T) {k : Fin 4} {v : Int32} (d : Dec cd pc (.iload_n k) 1 n) (hl : L[k.val]? = some (.val (.int v)))
    (k : Go p e below F T (mkF m n L (.int v :: r))) : Go p e below F T (mkF m pc L r) := by
  obtain ⟨t, st, f⟩ := k; obtain ⟨d, rfl⟩ := d
  exact ⟨t, XS.iloadN C.1 C.2.1 rfl (hb C.2.2 d) hl st, f⟩
theorem Go.iload (C : Cx p below m c cd T) {k : Nat} {v : Int32} (d : Dec cd pc (.iload k) 2 n) (hl : L[k]? = some (.val (.int v)))
    (k : Go p e below F T (mkF m n L (.int v :: r))) : Go p e below F T (mkF m pc L r) := by
  obtain ⟨t, st, f⟩ := k; obtain ⟨d, rfl⟩ := d
  exact ⟨t, XS.iload C.1 C.2.1 rfl (hb C.2.2 d) hl st, f⟩
theorem Go.lload_n (C : Cx p below m c cd T) {k : Fin 4} {v : Int64} (d : Dec cd pc (.lload_n k) 1 n) (hl : L[k.val]? = some (.val (.long v)))
    (k : Go p e below F T (mkF m n L (.long v :: r))) : Go p e below F T (mkF m pc L r) := by
  obtain ⟨t, st, f⟩ := k; obtain ⟨d, rfl⟩ := d
  exact ⟨t, XS.lloadN C.1 C.2.1 rfl (hb C.2.2 d) hl st, f⟩
theorem Go.lload (C : Cx p below m c cd T) {k : Nat} {v : Int64} (d : Dec cd pc (.lload k) 2 n) (hl : L[k]? = some (.val (.long v)))
    (k : Go p e below F T (mkF m n L (.long v :: r))) : Go p e below F T (mkF m pc L r) := by
  obtain ⟨t, st, f⟩ := k; obtain ⟨d, rfl⟩ := d
  exact ⟨t, XS.lload C.1 C.2.1 rfl (hb C.2.2 d) hl st, f⟩
theorem Go.iconst (C : Cx p below m c cd T) {i : Int} {z : Int32} (d : Dec cd pc (.iconst i) 1 n) (hz : Int32.ofInt i = z)
    (k : Go p e below F T (mkF m n L (.int z :: r))) : Go p e below F T (mkF m pc L r) := by
  obtain ⟨t, st, f⟩ := k; obtain ⟨d, rfl⟩ := d
  subst hz; exact ⟨t, XS.iconst C.1 C.2.1 rfl (hb C.2.2 d)  st, f⟩
theorem Go.bipush (C : Cx p below m c cd T) {i : Int} {z : Int32} (d : Dec cd pc (.bipush i) 2 n) (hz : (Int8.ofInt i).toInt32 = z)
    (k : Go p e below F T (mkF m n L (.int z :: r))) : Go p e below F T (mkF m pc L r) := by
  obtain ⟨t, st, f⟩ := k; obtain ⟨d, rfl⟩ := d
  subst hz; exact ⟨t, XS.bipush C.1 C.2.1 rfl (hb C.2.2 d)  st, f⟩
theorem Go.sipush (C : Cx p below m c cd T) {i : Int} {z : Int32} (d : Dec cd pc (.sipush i) 3 n) (hz : (Int16.ofInt i).toInt32 = z)
    (k : Go p e below F T (mkF m n L (.int z :: r))) : Go p e below F T (mkF m pc L r) := by
  obtain ⟨t, st, f⟩ := k; obtain ⟨d, rfl⟩ := d
  subst hz; exact ⟨t, XS.sipush C.1 C.2.1 rfl (hb C.2.2 d)  st, f⟩
theorem Go.aconst_null (C : Cx p below m c cd T)  (d : Dec cd pc (.aconst_null) 1 n)
    (k : Go p e below F T (mkF m n L (.null :: r))) : Go p e below F T (mkF m pc L r) := by
  obtain ⟨t, st, f⟩ := k; obtain ⟨d, rfl⟩ := d
  exact ⟨t, XS.aconstNull C.1 C.2.1 rfl (hb C.2.2 d)  st, f⟩
theorem Go.iadd (C : Cx p below m c cd T) {x y : Int32} (d : Dec cd pc (.iadd) 1 n)
    (k : Go p e below F T (mkF m n L (.int (x + y) :: r))) : Go p e below F T (mkF m pc L (.int y :: .int x :: r)) := by
  obtain ⟨t, st, f⟩ := k; obtain ⟨d, rfl⟩ := d
  exact ⟨t, XS.iadd C.1 C.2.1 rfl (hb C.2.2 d) rfl st, f⟩
theorem Go.isub (C : Cx p below m c cd T) {x y : Int32} (d : Dec cd pc (.isub) 1 n)
    (k : Go p e below F T (mkF m n L (.int (x - y) :: r))) : Go p e below F T (mkF m pc L (.int y :: .int x :: r)) := by
  obtain ⟨t, st, f⟩ := k; obtain ⟨d, rfl⟩ := d
  exact ⟨t, XS.isub C.1 C.2.1 rfl (hb C.2.2 d) rfl st, f⟩
theorem Go.iand (C : Cx p below m c cd T) {x y : Int32} (d : Dec cd pc (.iand) 1 n)
    (k : Go p e below F T (mkF m n L (.int (x &&& y) :: r))) : Go p e below F T (mkF m pc L (.int y :: .int x :: r)) := by
  obtain ⟨t, st, f⟩ := k; obtain ⟨d, rfl⟩ := d
  exact ⟨t, XS.iand C.1 C.2.1 rfl (hb C.2.2 d) rfl st, f⟩
theorem Go.imul (C : Cx p below m c cd T) {x y : Int32} (d : Dec cd pc (.imul) 1 n)
    (k : Go p e below F T (mkF m n L (.int (x * y) :: r))) : Go p e below F T (mkF m pc L (.int y :: .int x :: r)) := by
  obtain ⟨t, st, f⟩ := k; obtain ⟨d, rfl⟩ := d
  exact ⟨t, XS.imul C.1 C.2.1 rfl (hb C.2.2 d) rfl st, f⟩
theorem Go.ior (C : Cx p below m c cd T) {x y : Int32} (d : Dec cd pc (.ior) 1 n)
    (k : Go p e below F T (mkF m n L (.int (x ||| y) :: r))) : Go p e below F T (mkF m pc L (.int y :: .int x :: r)) := by
  obtain ⟨t, st, f⟩ := k; obtain ⟨d, rfl⟩ := d
  exact ⟨t, XS.ior C.1 C.2.1 rfl (hb C.2.2 d) rfl st, f⟩
theorem Go.ixor (C : Cx p below m c cd T) {x y : Int32} (d : Dec cd pc (.ixor) 1 n)
    (k : Go p e below F T (mkF m n L (.int (x ^^^ y) :: r))) : Go p e below F T (mkF m pc L (.int y :: .int x :: r)) := by
  obtain ⟨t, st, f⟩ := k; obtain ⟨d, rfl⟩ := d
  exact ⟨t, XS.ixor C.1 C.2.1 rfl (hb C.2.2 d) rfl st, f⟩
theorem Go.iushr (C : Cx p below m c cd T) {x y : Int32} (d : Dec cd pc (.iushr) 1 n)
    (k : Go p e below F T (mkF m n L (.int (ush x y) :: r))) : Go p e below F T (mkF m pc L (.int y :: .int x :: r)) := by
  obtain ⟨t, st, f⟩ := k; obtain ⟨d, rfl⟩ := d
  exact ⟨t, XS.iushr C.1 C.2.1 rfl (hb C.2.2 d) rfl st, f⟩
theorem Go.idiv (C : Cx p below m c cd T) {x y : Int32} (d : Dec cd pc (.idiv) 1 n) (hy : y ≠ 0)
    (k : Go p e below F T (mkF m n L (.int (x / y) :: r))) : Go p e below F T (mkF m pc L (.int y :: .int x :: r)) := by
  obtain ⟨t, st, f⟩ := k; obtain ⟨d, rfl⟩ := d
  exact ⟨t, XS.idiv C.1 C.2.1 rfl (hb C.2.2 d) rfl hy st, f⟩
theorem Go.ineg (C : Cx p below m c cd T) {x : Int32} (d : Dec cd pc (.ineg) 1 n)
    (k : Go p e below F T (mkF m n L (.int (-x) :: r))) : Go p e below F T (mkF m pc L (.int x :: r)) := by
  obtain ⟨t, st, f⟩ := k; obtain ⟨d, rfl⟩ := d
  exact ⟨t, XS.ineg C.1 C.2.1 rfl (hb C.2.2 d) rfl st, f⟩
theorem Go.ladd (C : Cx p below m c cd T) {x y : Int64} (d : Dec cd pc (.ladd) 1 n)
    (k : Go p e below F T (mkF m n L (.long (x + y) :: r))) : Go p e below F T (mkF m pc L (.long y :: .long x :: r)) := by
  obtain ⟨t, st, f⟩ := k; obtain ⟨d, rfl⟩ := d
  exact ⟨t, XS.ladd C.1 C.2.1 rfl (hb C.2.2 d) rfl st, f⟩
theorem Go.lsub (C : Cx p below m c cd T) {x y : Int64} (d : Dec cd pc (.lsub) 1 n)
    (k : Go p e below F T (mkF m n L (.long (x - y) :: r))) : Go p e below F T (mkF m pc L (.long y :: .long x :: r)) := by
  obtain ⟨t, st, f⟩ := k; obtain ⟨d, rfl⟩ := d
  exact ⟨t, XS.lsub C.1 C.2.1 rfl (hb C.2.2 d) rfl st, f⟩
theorem Go.lmul (C : Cx p below m c cd T) {x y : Int64} (d : Dec cd pc (.lmul) 1 n)
    (k : Go p e below F T (mkF m n L (.long (x * y) :: r))) : Go p e below F T (mkF m pc L (.long y :: .long x :: r)) := by
  obtain ⟨t, st, f⟩ := k; obtain ⟨d, rfl⟩ := d
  exact ⟨t, XS.lmul C.1 C.2.1 rfl (hb C.2.2 d) rfl st, f⟩
theorem Go.land (C : Cx p below m c cd T) {x y : Int64} (d : Dec cd pc (.land) 1 n)
    (k : Go p e below F T (mkF m n L (.long (x &&& y) :: r))) : Go p e below F T (mkF m pc L (.long y :: .long x :: r)) := by
  obtain ⟨t, st, f⟩ := k; obtain ⟨d, rfl⟩ := d
  exact ⟨t, XS.land C.1 C.2.1 rfl (hb C.2.2 d) rfl st, f⟩
theorem Go.lor (C : Cx p below m c cd T) {x y : Int64} (d : Dec cd pc (.lor) 1 n)
    (k : Go p e below F T (mkF m n L (.long (x ||| y) :: r))) : Go p e below F T (mkF m pc L (.long y :: .long x :: r)) := by
  obtain ⟨t, st, f⟩ := k; obtain ⟨d, rfl⟩ := d
  exact ⟨t, XS.lor C.1 C.2.1 rfl (hb C.2.2 d) rfl st, f⟩
theorem Go.lushr (C : Cx p below m c cd T) {x : Int64} {y : Int32} (d : Dec cd pc (.lushr) 1 n)
    (k : Go p e below F T (mkF m n L (.long (ushL x y) :: r))) : Go p e below F T (mkF m pc L (.int y :: .long x :: r)) := by
  obtain ⟨t, st, f⟩ := k; obtain ⟨d, rfl⟩ := d
  exact ⟨t, XS.lushr C.1 C.2.1 rfl (hb C.2.2 d) rfl st, f⟩
theorem Go.i2l (C : Cx p below m c cd T) {x : Int32} (d : Dec cd pc (.i2l) 1 n)
    (k : Go p e below F T (mkF m n L (.long x.toInt64 :: r))) : Go p e below F T (mkF m pc L (.int x :: r)) := by
  obtain ⟨t, st, f⟩ := k; obtain ⟨d, rfl⟩ := d
  exact ⟨t, XS.i2l C.1 C.2.1 rfl (hb C.2.2 d) rfl st, f⟩
theorem Go.l2i (C : Cx p below m c cd T) {x : Int64} (d : Dec cd pc (.l2i) 1 n)
    (k : Go p e below F T (mkF m n L (.int x.toInt32 :: r))) : Go p e below F T (mkF m pc L (.long x :: r)) := by
  obtain ⟨t, st, f⟩ := k; obtain ⟨d, rfl⟩ := d
  exact ⟨t, XS.l2i C.1 C.2.1 rfl (hb C.2.2 d) rfl st, f⟩
theorem Go.i2b (C : Cx p below m c cd T) {x : Int32} (d : Dec cd pc (.i2b) 1 n)
    (k : Go p e below F T (mkF m n L (.int x.toInt8.toInt32 :: r))) : Go p e below F T (mkF m pc L (.int x :: r)) := by
  obtain ⟨t, st, f⟩ := k; obtain ⟨d, rfl⟩ := d
  exact ⟨t, XS.i2b C.1 C.2.1 rfl (hb C.2.2 d) rfl st, f⟩
theorem Go.i2c (C : Cx p below m c cd T) {x : Int32} (d : Dec cd pc (.i2c) 1 n)
    (k : Go p e below F T (mkF m n L (.int x.toUInt32.toUInt16.toUInt32.toInt32 :: r))) : Go p e below F T (mkF m pc L (.int x :: r)) := by
  obtain ⟨t, st, f⟩ := k; obtain ⟨d, rfl⟩ := d
  exact ⟨t, XS.i2c C.1 C.2.1 rfl (hb C.2.2 d) rfl st, f⟩
theorem Go.lcmp (C : Cx p below m c cd T) {x y : Int64} (d : Dec cd pc (.lcmp) 1 n)
    (k : Go p e below F T (mkF m n L (.int (lcm x y) :: r))) : Go p e below F T (mkF m pc L (.long y :: .long x :: r)) := by
  obtain ⟨t, st, f⟩ := k; obtain ⟨d, rfl⟩ := d
  exact ⟨t, XS.lcmp C.1 C.2.1 rfl (hb C.2.2 d) rfl st, f⟩
theorem Go.dup (C : Cx p below m c cd T) {x : Value} (d : Dec cd pc (.dup) 1 n) (hc : x.category = 1)
    (k : Go p e below F T (mkF m n L (x :: x :: r))) : Go p e below F T (mkF m pc L (x :: r)) := by
  obtain ⟨t, st, f⟩ := k; obtain ⟨d, rfl⟩ := d
  exact ⟨t, XS.dup C.1 C.2.1 rfl (hb C.2.2 d) rfl hc st, f⟩
theorem Go.pop (C : Cx p below m c cd T) {x : Value} (d : Dec cd pc (.pop) 1 n) (hc : x.category = 1)
    (k : Go p e below F T (mkF m n L r)) : Go p e below F T (mkF m pc L (x :: r)) := by
  obtain ⟨t, st, f⟩ := k; obtain ⟨d, rfl⟩ := d
  exact ⟨t, XS.pop C.1 C.2.1 rfl (hb C.2.2 d) rfl hc st, f⟩
theorem Go.istore_n (C : Cx p below m c cd T) {k : Fin 4} {x : Int32} {L' : Array Slot} (d : Dec cd pc (.istore_n k) 1 n) (hl : storeLocals L k.val (.int x) = some L')
    (k : Go p e below F T (mkF m n L' r)) : Go p e below F T (mkF m pc L (.int x :: r)) := by
  obtain ⟨t, st, f⟩ := k; obtain ⟨d, rfl⟩ := d
  exact ⟨t, XS.istoreN C.1 C.2.1 rfl (hb C.2.2 d) rfl hl st, f⟩
theorem Go.istore (C : Cx p below m c cd T) {k : Nat} {x : Int32} {L' : Array Slot} (d : Dec cd pc (.istore k) 2 n) (hl : storeLocals L k (.int x) = some L')
    (k : Go p e below F T (mkF m n L' r)) : Go p e below F T (mkF m pc L (.int x :: r)) := by
  obtain ⟨t, st, f⟩ := k; obtain ⟨d, rfl⟩ := d
  exact ⟨t, XS.istore C.1 C.2.1 rfl (hb C.2.2 d) rfl hl st, f⟩
theorem Go.lstore_n (C : Cx p below m c cd T) {k : Fin 4} {x : Int64} {L' : Array Slot} (d : Dec cd pc (.lstore_n k) 1 n) (hl : storeLocals L k.val (.long x) = some L')
    (k : Go p e below F T (mkF m n L' r)) : Go p e below F T (mkF m pc L (.long x :: r)) := by
  obtain ⟨t, st, f⟩ := k; obtain ⟨d, rfl⟩ := d
  exact ⟨t, XS.lstoreN C.1 C.2.1 rfl (hb C.2.2 d) rfl hl st, f⟩
theorem Go.lstore (C : Cx p below m c cd T) {k : Nat} {x : Int64} {L' : Array Slot} (d : Dec cd pc (.lstore k) 2 n) (hl : storeLocals L k (.long x) = some L')
    (k : Go p e below F T (mkF m n L' r)) : Go p e below F T (mkF m pc L (.long x :: r)) := by
  obtain ⟨t, st, f⟩ := k; obtain ⟨d, rfl⟩ := d
  exact ⟨t, XS.lstore C.1 C.2.1 rfl (hb C.2.2 d) rfl hl st, f⟩
theorem Go.astore_n (C : Cx p below m c cd T) {k : Fin 4} {x : Value} {L' : Array Slot} (d : Dec cd pc (.astore_n k) 1 n) (hv : x.isRef = true) (hl : storeLocals L k.val x = some L')
    (k : Go p e below F T (mkF m n L' r)) : Go p e below F T (mkF m pc L (x :: r)) := by
  obtain ⟨t, st, f⟩ := k; obtain ⟨d, rfl⟩ := d
  exact ⟨t, XS.astoreN C.1 C.2.1 rfl (hb C.2.2 d) rfl hv hl st, f⟩
theorem Go.astore (C : Cx p below m c cd T) {k : Nat} {x : Value} {L' : Array Slot} (d : Dec cd pc (.astore k) 2 n) (hv : x.isRef = true) (hl : storeLocals L k x = some L')
    (k : Go p e below F T (mkF m n L' r)) : Go p e below F T (mkF m pc L (x :: r)) := by
  obtain ⟨t, st, f⟩ := k; obtain ⟨d, rfl⟩ := d
  exact ⟨t, XS.astore C.1 C.2.1 rfl (hb C.2.2 d) rfl hv hl st, f⟩
theorem Go.iinc (C : Cx p below m c cd T) {k : Nat} {i : Int} {x z : Int32} {L' : Array Slot} (d : Dec cd pc (.iinc k i) 3 n) (hl : L[k]? = some (.val (.int x))) (hz : x + Int32.ofInt i = z) (hl' : storeLocals L k (.int z) = some L')
    (k : Go p e below F T (mkF m n L' r)) : Go p e below F T (mkF m pc L r) := by
  obtain ⟨t, st, f⟩ := k; obtain ⟨d, rfl⟩ := d
  exact ⟨t, XS.iinc C.1 C.2.1 rfl (hb C.2.2 d) hl (hz ▸ hl') st, f⟩
theorem Go.irem (C : Cx p below m c cd T) {x y : Int32} (d : Dec cd pc (.irem) 1 n) (hy : y ≠ 0)
    (k : Go p e below F T (mkF m n L (.int (x % y) :: r))) : Go p e below F T (mkF m pc L (.int y :: .int x :: r)) := by
  obtain ⟨t, st, f⟩ := k; obtain ⟨d, rfl⟩ := d
  exact ⟨t, XS.irem C.1 C.2.1 rfl (hb C.2.2 d) rfl hy (by rw [irem_eq_mod]; exact st), f⟩
theorem Go.lconst (C : Cx p below m c cd T) {k0 : Fin 2} {z : Int64} (d : Dec cd pc (.lconst k0) 1 n) (hz : Int64.ofNat k0 = z)
    (k : Go p e below F T (mkF m n L (.long z :: r))) : Go p e below F T (mkF m pc L r) := by
  obtain ⟨t, st, f⟩ := k; obtain ⟨d, rfl⟩ := d
  subst hz; exact ⟨t, XS.lconst C.1 C.2.1 rfl (hb C.2.2 d) st, f⟩
theorem Go.goto (C : Cx p below m c cd T) {o : Int} {q : Nat} (d : Dec cd pc (.goto o) 3 n) (ho : 0 ≤ (pc : Int) + o) (hp : ((pc : Int) + o).toNat = q)
    (k : Go p e below F T (mkF m q L r)) : Go p e below F T (mkF m pc L r) := by
  obtain ⟨t, st, f⟩ := k; obtain ⟨d, rfl⟩ := d
  exact ⟨t, XS.goto C.1 C.2.1 rfl (pc0 := pc) rfl (hb C.2.2 d) ho hp st, f⟩
theorem Go.ifb (C : Cx p below m c cd T) {cc : ClassFile.Cond} {x : Int32} {o : Int} {q : Nat} (d : Dec cd pc (.ifCond cc o) 3 n) (ho : 0 ≤ (pc : Int) + o) (hp : ((pc : Int) + o).toNat = q)
    (k1 : ifCond.holds cc x = true → Go p e below F T (mkF m q L r)) (k2 : ifCond.holds cc x = false → Go p e below F T (mkF m n L r)) : Go p e below F T (mkF m pc L (.int x :: r)) := by
  obtain ⟨d, rfl⟩ := d
  cases hc : ifCond.holds cc x
  · obtain ⟨t, st, f⟩ := k2 hc; exact ⟨t, XS.ifNo C.1 C.2.1 rfl (hb C.2.2 d) rfl hc st, f⟩
  · obtain ⟨t, st, f⟩ := k1 hc; exact ⟨t, XS.ifYes C.1 C.2.1 rfl (pc0 := pc) rfl (hb C.2.2 d) rfl hc ho hp st, f⟩
theorem Go.icb (C : Cx p below m c cd T) {cc : ClassFile.Cond} {x y : Int32} {o : Int} {q : Nat} (d : Dec cd pc (.if_icmp cc o) 3 n) (ho : 0 ≤ (pc : Int) + o) (hp : ((pc : Int) + o).toNat = q)
    (k1 : if_icmp.holds cc x y = true → Go p e below F T (mkF m q L r)) (k2 : if_icmp.holds cc x y = false → Go p e below F T (mkF m n L r)) : Go p e below F T (mkF m pc L (.int y :: .int x :: r)) := by
  obtain ⟨d, rfl⟩ := d
  cases hc : if_icmp.holds cc x y
  · obtain ⟨t, st, f⟩ := k2 hc; exact ⟨t, XS.icmpNo C.1 C.2.1 rfl (hb C.2.2 d) rfl hc st, f⟩
  · obtain ⟨t, st, f⟩ := k1 hc; exact ⟨t, XS.icmpYes C.1 C.2.1 rfl (pc0 := pc) rfl (hb C.2.2 d) rfl hc ho hp st, f⟩
theorem Go.ifeq (C : Cx p below m c cd T) {x : Int32} {o : Int} {q : Nat} (d : Dec cd pc (.ifCond .eq o) 3 n) (ho : 0 ≤ (pc : Int) + o) (hp : ((pc : Int) + o).toNat = q)
    (k1 : x = 0 → Go p e below F T (mkF m q L r)) (k2 : ¬ x = 0 → Go p e below F T (mkF m n L r)) : Go p e below F T (mkF m pc L (.int x :: r)) :=
  Go.ifb C d ho hp (fun h => k1 (by simpa [ifCond.holds] using h)) (fun h => k2 (by simpa [ifCond.holds] using h))
theorem Go.ifne (C : Cx p below m c cd T) {x : Int32} {o : Int} {q : Nat} (d : Dec cd pc (.ifCond .ne o) 3 n) (ho : 0 ≤ (pc : Int) + o) (hp : ((pc : Int) + o).toNat = q)
    (k1 : ¬ x = 0 → Go p e below F T (mkF m q L r)) (k2 : x = 0 → Go p e below F T (mkF m n L r)) : Go p e below F T (mkF m pc L (.int x :: r)) :=
  Go.ifb C d ho hp (fun h => k1 (by simpa [ifCond.holds] using h)) (fun h => k2 (by simpa [ifCond.holds] using h))
theorem Go.iflt (C : Cx p below m c cd T) {x : Int32} {o : Int} {q : Nat} (d : Dec cd pc (.ifCond .lt o) 3 n) (ho : 0 ≤ (pc : Int) + o) (hp : ((pc : Int) + o).toNat = q)
    (k1 : x < 0 → Go p e below F T (mkF m q L r)) (k2 : ¬ x < 0 → Go p e below F T (mkF m n L r)) : Go p e below F T (mkF m pc L (.int x :: r)) :=
  Go.ifb C d ho hp (fun h => k1 (by simpa [ifCond.holds] using h)) (fun h => k2 (by simpa [ifCond.holds] using h))
theorem Go.ifge (C : Cx p below m c cd T) {x : Int32} {o : Int} {q : Nat} (d : Dec cd pc (.ifCond .ge o) 3 n) (ho : 0 ≤ (pc : Int) + o) (hp : ((pc : Int) + o).toNat = q)
    (k1 : ¬ x < 0 → Go p e below F T (mkF m q L r)) (k2 : x < 0 → Go p e below F T (mkF m n L r)) : Go p e below F T (mkF m pc L (.int x :: r)) :=
  Go.ifb C d ho hp (fun h => k1 (by simpa [ifCond.holds] using h)) (fun h => k2 (by simpa [ifCond.holds] using h))
theorem Go.ifgt (C : Cx p below m c cd T) {x : Int32} {o : Int} {q : Nat} (d : Dec cd pc (.ifCond .gt o) 3 n) (ho : 0 ≤ (pc : Int) + o) (hp : ((pc : Int) + o).toNat = q)
    (k1 : 0 < x → Go p e below F T (mkF m q L r)) (k2 : ¬ 0 < x → Go p e below F T (mkF m n L r)) : Go p e below F T (mkF m pc L (.int x :: r)) :=
  Go.ifb C d ho hp (fun h => k1 (by simpa [ifCond.holds] using h)) (fun h => k2 (by simpa [ifCond.holds] using h))
theorem Go.ifle (C : Cx p below m c cd T) {x : Int32} {o : Int} {q : Nat} (d : Dec cd pc (.ifCond .le o) 3 n) (ho : 0 ≤ (pc : Int) + o) (hp : ((pc : Int) + o).toNat = q)
    (k1 : ¬ 0 < x → Go p e below F T (mkF m q L r)) (k2 : 0 < x → Go p e below F T (mkF m n L r)) : Go p e below F T (mkF m pc L (.int x :: r)) :=
  Go.ifb C d ho hp (fun h => k1 (by simpa [ifCond.holds] using h)) (fun h => k2 (by simpa [ifCond.holds] using h))
theorem Go.iceq (C : Cx p below m c cd T) {x y : Int32} {o : Int} {q : Nat} (d : Dec cd pc (.if_icmp .eq o) 3 n) (ho : 0 ≤ (pc : Int) + o) (hp : ((pc : Int) + o).toNat = q)
    (k1 : x = y → Go p e below F T (mkF m q L r)) (k2 : ¬ x = y → Go p e below F T (mkF m n L r)) : Go p e below F T (mkF m pc L (.int y :: .int x :: r)) :=
  Go.icb C d ho hp (fun h => k1 (by simpa [if_icmp.holds] using h)) (fun h => k2 (by simpa [if_icmp.holds] using h))
theorem Go.icne (C : Cx p below m c cd T) {x y : Int32} {o : Int} {q : Nat} (d : Dec cd pc (.if_icmp .ne o) 3 n) (ho : 0 ≤ (pc : Int) + o) (hp : ((pc : Int) + o).toNat = q)
    (k1 : ¬ x = y → Go p e below F T (mkF m q L r)) (k2 : x = y → Go p e below F T (mkF m n L r)) : Go p e below F T (mkF m pc L (.int y :: .int x :: r)) :=
  Go.icb C d ho hp (fun h => k1 (by simpa [if_icmp.holds] using h)) (fun h => k2 (by simpa [if_icmp.holds] using h))
theorem Go.iclt (C : Cx p below m c cd T) {x y : Int32} {o : Int} {q : Nat} (d : Dec cd pc (.if_icmp .lt o) 3 n) (ho : 0 ≤ (pc : Int) + o) (hp : ((pc : Int) + o).toNat = q)
    (k1 : x < y → Go p e below F T (mkF m q L r)) (k2 : ¬ x < y → Go p e below F T (mkF m n L r)) : Go p e below F T (mkF m pc L (.int y :: .int x :: r)) :=
  Go.icb C d ho hp (fun h => k1 (by simpa [if_icmp.holds] using h)) (fun h => k2 (by simpa [if_icmp.holds] using h))
theorem Go.icge (C : Cx p below m c cd T) {x y : Int32} {o : Int} {q : Nat} (d : Dec cd pc (.if_icmp .ge o) 3 n) (ho : 0 ≤ (pc : Int) + o) (hp : ((pc : Int) + o).toNat = q)
    (k1 : ¬ x < y → Go p e below F T (mkF m q L r)) (k2 : x < y → Go p e below F T (mkF m n L r)) : Go p e below F T (mkF m pc L (.int y :: .int x :: r)) :=
  Go.icb C d ho hp (fun h => k1 (by simpa [if_icmp.holds] using h)) (fun h => k2 (by simpa [if_icmp.holds] using h))
theorem Go.icgt (C : Cx p below m c cd T) {x y : Int32} {o : Int} {q : Nat} (d : Dec cd pc (.if_icmp .gt o) 3 n) (ho : 0 ≤ (pc : Int) + o) (hp : ((pc : Int) + o).toNat = q)
    (k1 : y < x → Go p e below F T (mkF m q L r)) (k2 : ¬ y < x → Go p e below F T (mkF m n L r)) : Go p e below F T (mkF m pc L (.int y :: .int x :: r)) :=
  Go.icb C d ho hp (fun h => k1 (by simpa [if_icmp.holds] using h)) (fun h => k2 (by simpa [if_icmp.holds] using h))
theorem Go.icle (C : Cx p below m c cd T) {x y : Int32} {o : Int} {q : Nat} (d : Dec cd pc (.if_icmp .le o) 3 n) (ho : 0 ≤ (pc : Int) + o) (hp : ((pc : Int) + o).toNat = q)
    (k1 : ¬ y < x → Go p e below F T (mkF m q L r)) (k2 : y < x → Go p e below F T (mkF m n L r)) : Go p e below F T (mkF m pc L (.int y :: .int x :: r)) :=
  Go.icb C d ho hp (fun h => k1 (by simpa [if_icmp.holds] using h)) (fun h => k2 (by simpa [if_icmp.holds] using h))
theorem Go.ifnull_y (C : Cx p below m c cd T) {o : Int} {q : Nat} (d : Dec cd pc (.ifnull o) 3 n) (ho : 0 ≤ (pc : Int) + o) (hp : ((pc : Int) + o).toNat = q)
    (k : Go p e below F T (mkF m q L r)) : Go p e below F T (mkF m pc L (.null :: r)) := by
  obtain ⟨t, st, f⟩ := k; obtain ⟨d, rfl⟩ := d
  exact ⟨t, XS.ifnullYes C.1 C.2.1 rfl (pc0 := pc) rfl (hb C.2.2 d) rfl ho hp st, f⟩
theorem Go.ifnull_n (C : Cx p below m c cd T) {o : Int} {a : Addr} (d : Dec cd pc (.ifnull o) 3 n)
    (k : Go p e below F T (mkF m n L r)) : Go p e below F T (mkF m pc L (.ref a :: r)) := by
  obtain ⟨t, st, f⟩ := k; obtain ⟨d, rfl⟩ := d
  exact ⟨t, XS.ifnullNo C.1 C.2.1 rfl (hb C.2.2 d) rfl st, f⟩
theorem Go.ifnonnull_y (C : Cx p below m c cd T) {o : Int} {q : Nat} {a : Addr} (d : Dec cd pc (.ifnonnull o) 3 n) (ho : 0 ≤ (pc : Int) + o) (hp : ((pc : Int) + o).toNat = q)
    (k : Go p e below F T (mkF m q L r)) : Go p e below F T (mkF m pc L (.ref a :: r)) := by
  obtain ⟨t, st, f⟩ := k; obtain ⟨d, rfl⟩ := d
  exact ⟨t, XS.ifnonnullYes C.1 C.2.1 rfl (pc0 := pc) rfl (hb C.2.2 d) rfl ho hp st, f⟩
theorem Go.ifnonnull_n (C : Cx p below m c cd T) {o : Int} (d : Dec cd pc (.ifnonnull o) 3 n)
    (k : Go p e below F T (mkF m n L r)) : Go p e below F T (mkF m pc L (.null :: r)) := by
  obtain ⟨t, st, f⟩ := k; obtain ⟨d, rfl⟩ := d
  exact ⟨t, XS.ifnonnullNo C.1 C.2.1 rfl (hb C.2.2 d) rfl st, f⟩
end Plain
section Walk
/-- a walk stands at T, the heap h: over its own start s whose tables may have come to vm0; what xs names is the walk's own to write -/
def Wk (nw : Prop) (EL : List (String × Nat)) (n0 : Nat) (Z : State) (a0 : Array Value) (own nm : String) (cd : ByteArray) (ml : Nat) (ret : Option FieldType) (p : Program) (l : Launch) (e : Env) (R : Room) (s : State) (m : MethodId) (args : Array Value) (below : List Frame) (meth : Method) (c : Code) (T : State) (h : Heap) (xs : List Addr) (cells slots : Nat) : Prop :=
  ∃ (vm0 : Vm) (k0 : Nat) (locs : List Loc), Stand p l e R (s.setVm vm0) m args below meth c T locs cells slots ∧ T.heap = h ∧ s.Since vm0 k0 ∧ k0 ≤ h.size ∧ (nw → s.WarmedH vm0) ∧ Z.Warmed39 vm0 ∧ vm0.findClass own = some m.cls ∧ EW Z a0 EL ∧ CHr Z EL s.vm s.heap vm0 h ∧ Fr n0 locs ∧ Old Z n0 h ∧
    (∀ x ∈ xs, n0 ≤ x ∧ x < h.size ∧ Safe Z EL vm0 h x) ∧ p.tables.exec = Jvm.exec ∧ c.code = cd ∧ c.maxLocals = ml ∧ meth.sig.returnType = ret ∧ meth.locks = false ∧ meth.name = nm
/-- how a body's walk ends -/
def Endp (nw : Prop) (EL : List (String × Nat)) (n0 : Nat) (Z : State) (below : List Frame) (s : State) (kc ks : Nat) (Q : Option Value → Heap → Prop) (t : State) : Prop :=
  t.status = .running ∧ ∃ v Lc, Ended t below (.returned v) ∧ Q v t.heap ∧ Fr n0 Lc ∧ Old Z n0 t.heap ∧ CHr Z EL s.vm s.heap t.vm t.heap ∧ ReturnedEndW s (.returned v) t Lc kc ks ∧ (nw → s.WarmedH t.vm)
/-- a body's contract -/
def Ctr (nw : Prop) (EL : List (String × Nat)) (n0 : Nat) (Z : State) (xs : List Addr) (l : Launch) (y : MethodName) (bytes : ByteArray) (maxL : Nat) (ret : Option FieldType) (rm : Room) (as' : Array Value) (h : Heap) (Q : Option Value → Heap → Prop) : Prop :=
  ∀ ws, MetFree l y (head1 (Cond.code y bytes maxL ret :: ws) rm) (fun a U => a = as' ∧ U.heap = h ∧ Z.Warmed39 U.vm ∧ CHv Z EL U.vm h ∧ ∀ x ∈ xs, Safe Z EL U.vm h x) (fun _ _ _ _ _ => True)
    (fun _ U o U' => ∃ v Lc, o = .returned v ∧ Q v U'.heap ∧ Fr n0 Lc ∧ Old Z n0 U'.heap ∧ CHr Z EL U.vm U.heap U'.vm U'.heap ∧ ReturnedEndW U o U' Lc rm.cells rm.slots ∧ (nw → U.WarmedH U'.vm))
/-- a call that comes back -/
def Call (nw : Prop) (EL : List (String × Nat)) (n0 : Nat) (Z : State) (xs : List Addr) (l : Launch) (R : Room) (p : Program) (e : Env) (below : List Frame) (s : State) (args : Array Value) (y : MethodName) (len W : Nat) (as' : Array Value) (h : Heap) (kc ks : Nat) (Q : Option Value → Heap → Prop) : Prop :=
  ∀ vm0, Z.Warmed39 vm0 → CHv Z EL vm0 h → Old Z n0 h → (∀ x ∈ xs, n0 ≤ x ∧ x < h.size ∧ Safe Z EL vm0 h x) →
    BackS l R p e below (s.setVm vm0) args y len W (fun A a => a = as' ∧ A.U.heap = h ∧ A.cells + kc ≤ R.cells ∧ A.slots + ks ≤ R.slots)
      (fun A _ v B => ∃ Lc, Q v B.U.heap ∧ B.locs = A.locs ++ Lc ∧ B.cells = A.cells + kc ∧ B.slots = A.slots + ks ∧ Fr n0 Lc ∧ Old Z n0 B.U.heap ∧ CHr Z EL vm0 h B.U.vm B.U.heap ∧ (nw → (s.setVm vm0).WarmedH B.U.vm))
/-- what a body hands back: a value, or nothing -/
def RV (Q : Value → Heap → Prop) (v : Option Value) (h : Heap) : Prop := ∃ w, v = some w ∧ Q w h
def RN (Q : Heap → Prop) (v : Option Value) (h : Heap) : Prop := v = none ∧ Q h
variable {nw : Prop} {EL : List (String × Nat)} {n0 : Nat} {Z : State} {a0 : Array Value} {own nm : String} {cd : ByteArray} {ml : Nat} {ret : Option FieldType} {p : Program} {l : Launch} {e : Env} {R : Room} {s : State} {m : MethodId} {args : Array Value} {below : List Frame} {meth : Method} {c : Code} {T : State} {h : Heap} {xs : List Addr} {cells slots : Nat}
variable {F : State → Prop} {pc n : Nat} {L : Array Slot} {r : List Value}
theorem Wk.cx (W : Wk nw EL n0 Z a0 own nm cd ml ret p l e R s m args below meth c T h xs cells slots) : Cx p below m c cd T := by
  obtain ⟨vm0, k0, locs, X, eT, hS, hk, hn, hZ, ho, hE, hC, hF, hO, hxs, hx, hby, rest⟩ := W
  exact ⟨X.here, hx, hby⟩
theorem Wk.old (W : Wk nw EL n0 Z a0 own nm cd ml ret p l e R s m args below meth c T h xs cells slots) : Old Z n0 h := by
  obtain ⟨vm0, k0, locs, X, eT, hS, hk, hn, hZ, ho, hE, hC, hF, hO, hxs, rest⟩ := W
  exact hO
theorem Wk.ew (W : Wk nw EL n0 Z a0 own nm cd ml ret p l e R s m args below meth c T h xs cells slots) : EW Z a0 EL := by
  obtain ⟨vm0, k0, locs, X, eT, hS, hk, hn, hZ, ho, hE, rest⟩ := W
  exact hE
theorem old_le (hO : Old Z n0 h) : n0 ≤ h.size := hO.1 ▸ hO.2.1
theorem Wk.mine (W : Wk nw EL n0 Z a0 own nm cd ml ret p l e R s m args below meth c T h xs cells slots) {x : Addr} (hm : x ∈ xs) : n0 ≤ x ∧ x < h.size := by
  obtain ⟨vm0, k0, locs, X, eT, hS, hk, hn, hZ, ho, hE, hC, hF, hO, hxs, rest⟩ := W
  exact ⟨(hxs x hm).1, (hxs x hm).2.1⟩
theorem Wk.mono (W : Wk nw EL n0 Z a0 own nm cd ml ret p l e R s m args below meth c T h xs cells slots) {cells' slots' : Nat} (h1 : cells ≤ cells') (h2 : slots ≤ slots') : Wk nw EL n0 Z a0 own nm cd ml ret p l e R s m args below meth c T h xs cells' slots' := by
  obtain ⟨vm0, k0, locs, X, rest⟩ := W
  exact ⟨vm0, k0, locs, ⟨X.admits, X.cas, X.clock, X.frames, X.room, X.hears, X.method, X.code, X.here, X.tail, X.warmed, X.limits, X.bytes, X.same.mono h1 h2⟩, rest⟩
theorem Wk.less (W : Wk nw EL n0 Z a0 own nm cd ml ret p l e R s m args below meth c T h xs cells slots) {xs' : List Addr} (hs : ∀ x ∈ xs', x ∈ xs) : Wk nw EL n0 Z a0 own nm cd ml ret p l e R s m args below meth c T h xs' cells slots := by
  obtain ⟨vm0, k0, locs, X, eT, hS, hk, hn, hZ, ho, hE, hC, hF, hO, hxs, rest⟩ := W
  exact ⟨vm0, k0, locs, X, eT, hS, hk, hn, hZ, ho, hE, hC, hF, hO, fun x q => hxs x (hs x q), rest⟩
theorem Wk.exa (W : Wk nw EL n0 Z a0 own nm cd ml ret p l e R s m args below meth c T h xs cells slots) {x : Addr} {C : String} (E : Exa Z h x C) (hx : n0 ≤ x) (h1 : C ≠ "java/lang/String") (h2 : C ≠ "[B") : Wk nw EL n0 Z a0 own nm cd ml ret p l e R s m args below meth c T h (x :: xs) cells slots := by
  obtain ⟨vm0, k0, locs, X, eT, hS, hk, hn, hZ, ho, hE, hC, hF, hO, hxs, rest⟩ := W
  refine ⟨vm0, k0, locs, X, eT, hS, hk, hn, hZ, ho, hE, hC, hF, hO, fun y q => ?_, rest⟩
  rcases List.mem_cons.mp q with rfl | q
  · exact ⟨hx, E.lt, Safe.exa hZ.alike E h1 h2⟩
  · exact hxs y q
theorem Wk.arv (W : Wk nw EL n0 Z a0 own nm cd ml ret p l e R s m args below meth c T h xs cells slots) {x : Addr} {k : ClassId} {ty : FieldType} {z : Int32} {vs : List Value} {dv : Value} (E : Arv Z h x k ty z vs dv) (hx : n0 ≤ x) (h1 : ty ≠ .byte) : Wk nw EL n0 Z a0 own nm cd ml ret p l e R s m args below meth c T h (x :: xs) cells slots := by
  obtain ⟨vm0, k0, locs, X, eT, hS, hk, hn, hZ, ho, hE, hC, hF, hO, hxs, rest⟩ := W
  refine ⟨vm0, k0, locs, X, eT, hS, hk, hn, hZ, ho, hE, hC, hF, hO, fun y q => ?_, rest⟩
  rcases List.mem_cons.mp q with rfl | q
  · exact ⟨hx, E.lt, Safe.arv hZ.alike E h1⟩
  · exact hxs y q
/-- getfield -/
theorem Go.getf (W : Wk nw EL n0 Z a0 own nm cd ml ret p l e R s m args below meth c T h xs cells slots) {R0 O f ty : String} {ix : Nat} {a : Addr} {v : Value} (d : Dec cd pc (.getfield ix) 3 n) (w : (Cond.fieldLink own ix R0 f ty).before a0 Z = true) (via : Via Z R0 O f ty) (Fl : Fld Z h a O f ty v)
    (k : ∀ T', Wk nw EL n0 Z a0 own nm cd ml ret p l e R s m args below meth c T' h xs cells slots → Go p e below F T' (mkF m n L (v :: r))) : Go p e below F T (mkF m pc L (.ref a :: r)) := by
  obtain ⟨vm0, k0, locs, X, eT, hS, hk, hn, hZ, ho, hE, hC, hF, hO, hxs, hx, hby, rest⟩ := W
  obtain ⟨d, rfl⟩ := d
  obtain ⟨T', X', e', st⟩ := getF X hx hZ ho (host := "") (Or.inl w) via eT Fl (g := mkF m pc L (.ref a :: r)) rfl rfl (hb hby d)
  exact Go.st st (k T' ⟨vm0, k0, locs, X', e', hS, hk, hn, hZ, ho, hE, hC, hF, hO, hxs, hx, hby, rest⟩)
/-- getstatic -/
theorem Go.gets (W : Wk nw EL n0 Z a0 own nm cd ml ret p l e R s m args below meth c T h xs cells slots) {R0 O f ty : String} {ix : Nat} {v : Value} (d : Dec cd pc (.getstatic ix) 3 n) (w : (Cond.fieldLink own ix R0 f ty).before a0 Z = true) (via : Via Z R0 O f ty) (Fl : Sta Z Z.heap O f ty v)
    (k : ∀ T', Wk nw EL n0 Z a0 own nm cd ml ret p l e R s m args below meth c T' h xs cells slots → Go p e below F T' (mkF m n L (v :: r))) : Go p e below F T (mkF m pc L r) := by
  obtain ⟨vm0, k0, locs, X, eT, hS, hk, hn, hZ, ho, hE, hC, hF, hO, hxs, hx, hby, rest⟩ := W
  obtain ⟨d, rfl⟩ := d
  obtain ⟨T', X', e', st⟩ := getS (host := "") X hx hZ ho w via eT (Fl.ext hO.2) (g := mkF m pc L r) rfl (hb hby d)
  exact Go.st st (k T' ⟨vm0, k0, locs, X', e', hS, hk, hn, hZ, ho, hE, hC, hF, hO, hxs, hx, hby, rest⟩)
/-- putfield on an object of the walk's own -/
theorem Go.putf (W : Wk nw EL n0 Z a0 own nm cd ml ret p l e R s m args below meth c T h xs cells slots) {R0 O f ty C : String} {ix kk : Nat} {t : FieldType} {a : Addr} {v v' old : Value} (d : Dec cd pc (.putfield ix) 3 n) (w : (Cond.fieldLink own ix R0 f ty).before a0 Z = true) (via : Via Z R0 O f ty) (Fl : Fld Z h a O f ty old) (E : Exa Z h a C)
    (hl : (Cond.lays C O f ty).before a0 Z = true ∨ ((Cond.laysFinal C O f ty).before a0 Z = true ∧ own = O ∧ nm = "<init>")) (wi : (Cond.instantiable C kk).before a0 Z = true) (hty : parseFieldDescriptor ty = some t) (hnv : narrow t v = v') (hf : fits t v' = true) (ha : a ∈ xs)
    (k : ∀ T' h', Wk nw EL n0 Z a0 own nm cd ml ret p l e R s m args below meth c T' h' xs cells slots → Wr h h' a (RoadKit.slotOf Z O f ty) v' → Go p e below F T' (mkF m n L r)) : Go p e below F T (mkF m pc L (v :: .ref a :: r)) := by
  obtain ⟨vm0, k0, locs, X, eT, hS, hk, hn, hZ, ho, hE, hC, hF, hO, hxs, hx, hby, hml, hrt, hlk, hnm⟩ := W
  obtain ⟨d, rfl⟩ := d
  obtain ⟨T', h', X', e', Wr', st⟩ := putFN X hx hZ ho w via eT Fl E (hl.imp id fun q => ⟨q.1, q.2.1, hnm.trans q.2.2⟩) wi hty hnv hf (g := mkF m pc L (v :: .ref a :: r)) rfl rfl (hb hby d)
  have q := hxs a ha
  have C1 := CHr.wr Wr' q.2.2 hC.1
  have sz : h'.size = h.size := Wr'.size
  exact Go.st st (k T' h' ⟨vm0, k0, _, X', e', hS, by rw [sz]; exact hk, hn, hZ, ho, hE, hC.trans C1, Fr.snoc X' hF q.1, hO.wr Wr' q.1, fun x hm => ⟨(hxs x hm).1, by rw [sz]; exact (hxs x hm).2.1, C1.safe (hxs x hm).2.1 (hxs x hm).2.2⟩, hx, hby, hml, hrt, hlk, hnm⟩ Wr')
/-- new -/
theorem Go.new (W : Wk nw EL n0 Z a0 own nm cd ml ret p l e R s m args below meth c T h xs cells slots) {C : String} {ix kk cells' slots' : Nat} (d : Dec cd pc (.new ix) 3 n) (w : (Cond.classLink own ix C).before a0 Z = true) (wi : (Cond.instantiable C kk).before a0 Z = true) (wz : (Cond.initialized C).before a0 Z = true)
    (hc : cells + 1 = cells') (hs : slots + kk = slots') (hc' : cells' ≤ R.cells) (hs' : slots' ≤ R.slots)
    (k : ∀ T' h' a, a = h.size → Wk nw EL n0 Z a0 own nm cd ml ret p l e R s m args below meth c T' h' (a :: xs) cells' slots' → Ext h h' → Exa Z h' a C → (∀ {O f ty : String} {t : FieldType}, Laid Z a0 C O f ty → parseFieldDescriptor ty = some t → Fld Z h' a O f ty (defaultValue t)) → Go p e below F T' (mkF m n L (.ref a :: r))) : Go p e below F T (mkF m pc L r) := by
  obtain ⟨vm0, k0, locs, X, eT, hS, hk, hn, hZ, ho, hE, hC, hF, hO, hxs, hx, hby, rest⟩ := W
  obtain ⟨d, rfl⟩ := d
  subst hc hs
  obtain ⟨T', h', X', e', E, A, D, -, st⟩ := newO X hx hZ ho w wi wz eT (g := mkF m pc L r) rfl (hb hby d) hc' hs'
  have C1 := CHr.ext E hC.1
  refine Go.st st (k T' h' h.size rfl ⟨vm0, k0, locs, X', e', hS, Nat.le_trans hk E.1, hn, hZ, ho, hE, hC.trans C1, hF, hO.ext E, fun x hm => ?_, hx, hby, rest⟩ E A (fun l t => D l t))
  rcases List.mem_cons.mp hm with rfl | hm
  · exact ⟨old_le hO, A.lt, Safe.ext E hC.1 (Safe.new (Nat.le_refl _))⟩
  · exact ⟨(hxs x hm).1, Nat.lt_of_lt_of_le (hxs x hm).2.1 E.1, C1.safe (hxs x hm).2.1 (hxs x hm).2.2⟩
/-- newarray -/
theorem Go.newarr (W : Wk nw EL n0 Z a0 own nm cd ml ret p l e R s m args below meth c T h xs cells slots) {aty : ArrayType} {z : Int32} {cap cells' slots' : Nat} (d : Dec cd pc (.newarray aty) 2 n) (w : (Cond.arrayClass (newarray.typeOf aty)).before a0 Z = true)
    (hz : ¬ z < 0) (hcap : z.toNatClampNeg ≤ cap) (hbig : cap * 8 ≤ 536870912) (hc : cells + 1 = cells') (hs : slots + cap = slots') (hc' : cells' ≤ R.cells) (hs' : slots' ≤ R.slots)
    (k : ∀ T' h' a ka, a = h.size → Wk nw EL n0 Z a0 own nm cd ml ret p l e R s m args below meth c T' h' (a :: xs) cells' slots' → Ext h h' → Arv Z h' a ka (newarray.typeOf aty) z [] (defaultValue (newarray.typeOf aty)) → Go p e below F T' (mkF m n L (.ref a :: r))) : Go p e below F T (mkF m pc L (.int z :: r)) := by
  obtain ⟨vm0, k0, locs, X, eT, hS, hk, hn, hZ, ho, hE, hC, hF, hO, hxs, hx, hby, rest⟩ := W
  obtain ⟨d, rfl⟩ := d
  subst hc hs
  obtain ⟨T', h', cA, X', e', E, A, st⟩ := newP X hx hZ w eT (g := mkF m pc L (.int z :: r)) rfl (hb hby d) rfl hz hcap hbig hc' hs'
  have C1 := CHr.ext E hC.1
  refine Go.st st (k T' h' h.size cA rfl ⟨vm0, k0, locs, X', e', hS, Nat.le_trans hk E.1, hn, hZ, ho, hE, hC.trans C1, hF, hO.ext E, fun x hm => ?_, hx, hby, rest⟩ E (Arv.new A hz))
  rcases List.mem_cons.mp hm with rfl | hm
  · exact ⟨old_le hO, A.lt, Safe.ext E hC.1 (Safe.new (Nat.le_refl _))⟩
  · exact ⟨(hxs x hm).1, Nat.lt_of_lt_of_le (hxs x hm).2.1 E.1, C1.safe (hxs x hm).2.1 (hxs x hm).2.2⟩
/-- Object.<init> -/
theorem Go.initObj (W : Wk nw EL n0 Z a0 own nm cd ml ret p l e R s m args below meth c T h xs cells slots) {ix wt : Nat} {a : Addr} (d : Dec cd pc (.invokespecial ix) 3 n) (w1 : (Cond.methodLink own ix Lib.objectInit).before a0 Z = true) (w2 : (Cond.instanceMethod Lib.objectInit).before a0 Z = true) (w3 : (Cond.code Lib.objectInit ⟨#[0xb1]⟩ 1 none).before a0 Z = true)
    (hsz : L.size = ml) (hf : 1 ≤ R.frames) (hw : (r.map fun v => v.category).sum = wt) (hl : wt + 12 ≤ R.locals)
    (k : ∀ T', Wk nw EL n0 Z a0 own nm cd ml ret p l e R s m args below meth c T' h xs cells slots → Go p e below F T' (mkF m n L r)) : Go p e below F T (mkF m pc L (.ref a :: r)) := by
  obtain ⟨vm0, k0, locs, X, eT, hS, hk, hn, hZ, ho, hE, hC, hF, hO, hxs, hx, hby, hml, rest⟩ := W
  obtain ⟨d, rfl⟩ := d
  obtain ⟨T', X', e', st⟩ := initO X hx hZ ho w1 w2 w3 eT (g := mkF m pc L (.ref a :: r)) rfl (hsz.trans hml.symm) rfl (hb hby d) hf (W := wt) (by show 2 * 0 + _ ≤ _; omega) hl
  exact Go.st st (k T' ⟨vm0, k0, locs, X', e', hS, hk, hn, hZ, ho, hE, hC, hF, hO, hxs, hx, hby, hml, rest⟩)
/-- a char[] of the walk, its chars -/
def CArr (Z : State) (h : Heap) (a : Addr) (ka : ClassId) (cs : List Int32) : Prop := Arv Z h a ka .char (Int32.ofNat cs.length) (cs.map Value.int) (.int 0)
theorem CArr.lt {a : Addr} {ka : ClassId} {cs : List Int32} (A : CArr Z h a ka cs) : a < h.size := Arv.lt A
theorem CArr.ext {h' : Heap} {a : Addr} {ka : ClassId} {cs : List Int32} (A : CArr Z h a ka cs) (E : Ext h h') : CArr Z h' a ka cs := Arv.ext A E
theorem CArr.keep {h' : Heap} {a : Addr} {ka : ClassId} {cs : List Int32} {ws : List Addr} (A : CArr Z h a ka cs) (K : Keep h h' ws) (q : a ∉ ws) : CArr Z h' a ka cs := Arv.keep A K q
theorem clamp_nat {i : Nat} (h : i < 2 ^ 31) : (Int32.ofNat i).toNatClampNeg = i := LawKit.clamp_of rfl h
theorem CArr.of_new {a : Addr} {ka : ClassId} {z : Int32} (A : Arv Z h a ka .char z [] (.int 0)) {cs : List Int32} {k : Nat} (hc : cs = List.replicate k 0) (hz : z = Int32.ofNat k) : CArr Z h a ka cs := by
  subst hc hz
  unfold CArr
  rw [List.length_replicate, List.map_replicate]
  exact Arv.pad A (fun i => by simpa using pad_rep [] (.int 0) k i)
theorem in_of {i k : Nat} {z : Int32} (hz : z = Int32.ofNat k) (hi : i < k) (hk : k < 2 ^ 31) : ¬ (Int32.ofNat i) < 0 ∧ (Int32.ofNat i) < z := by
  subst hz
  rw [Int32.lt_iff_toInt_lt, Int32.lt_iff_toInt_lt, LawKit.toInt_of (n := Int32.ofNat i) rfl (by omega), LawKit.toInt_of (n := Int32.ofNat k) rfl hk]
  constructor
  · show ¬ (i : Int) < 0; omega
  · omega
/-- castore into a char[] of the walk's own -/
theorem Go.castore (W : Wk nw EL n0 Z a0 own nm cd ml ret p l e R s m args below meth c T h xs cells slots) {a : Addr} {ka : ClassId} {cs : List Int32} {j x x' : Int32} (i : Nat) (d : Dec cd pc .castore 1 n) (A : CArr Z h a ka cs) (ha : a ∈ xs) (hj : j = Int32.ofNat i) (hi : i < cs.length) (hlen : cs.length < 2 ^ 31) (hx' : nar .char x = x')
    (k : ∀ T' h', Wk nw EL n0 Z a0 own nm cd ml ret p l e R s m args below meth c T' h' xs cells slots → Keep h h' [a] → CArr Z h' a ka (cs.set i x') → Go p e below F T' (mkF m n L r)) : Go p e below F T (mkF m pc L (.int x :: .int j :: .ref a :: r)) := by
  obtain ⟨vm0, k0, locs, X, eT, hS, hk, hn, hZ, ho, hE, hC, hF, hO, hxs, hx, hby, rest⟩ := W
  obtain ⟨d, rfl⟩ := d
  subst hx' hj
  obtain ⟨cl, A1, q1, S1, M1, H1, U1⟩ := id A
  have hin := inb_of S1 (in_of rfl hi hlen)
  obtain ⟨T', h', X', e', Wr', st⟩ := stC X hx hZ eT A1 hin (g := mkF m pc L (.int x :: .int (Int32.ofNat i) :: .ref a :: r)) rfl rfl (hb hby d)
  have q := hxs a ha
  have C1 := CHr.wr Wr' q.2.2 hC.1
  have sz : h'.size = h.size := Wr'.size
  have A2 : CArr Z h' a ka (cs.set i (nar .char x)) := by
    have B := Arv.set A1 q1 S1 M1 H1 U1 (fits_nar_char x) Wr' i (clamp_nat (by omega)) (by simpa using hi)
    unfold CArr
    rw [List.length_set, List.map_set]
    exact B
  exact Go.st st (k T' h' ⟨vm0, k0, _, X', e', hS, by rw [sz]; exact hk, hn, hZ, ho, hE, hC.trans C1, Fr.snoc X' hF q.1, hO.wr Wr' q.1, fun x hm => ⟨(hxs x hm).1, by rw [sz]; exact (hxs x hm).2.1, C1.safe (hxs x hm).2.1 (hxs x hm).2.2⟩, hx, hby, rest⟩ (Keep.of_wr Wr') A2)
/-- caload -/
theorem Go.caload (W : Wk nw EL n0 Z a0 own nm cd ml ret p l e R s m args below meth c T h xs cells slots) {a : Addr} {ka : ClassId} {cs : List Int32} {j v : Int32} (i : Nat) (d : Dec cd pc .caload 1 n) (A : CArr Z h a ka cs) (hj : j = Int32.ofNat i) (hi : i < cs.length) (hlen : cs.length < 2 ^ 31) (hv : cs.getD i 0 = v)
    (k : Go p e below F T (mkF m n L (.int v :: r))) : Go p e below F T (mkF m pc L (.int j :: .ref a :: r)) := by
  obtain ⟨vm0, k0, locs, X, eT, hS, hk, hn, hZ, ho, hE, hC, hF, hO, hxs, hx, hby, rest⟩ := W
  obtain ⟨d, rfl⟩ := d
  subst hj
  obtain ⟨cl, A1, q1, S1, M1, H1, U1⟩ := id A
  have hin := inb_of S1 (in_of rfl hi hlen)
  have hat := Has.at (v := .int v) H1 hin (by rw [clamp_nat (by omega)]; simp only [List.getD_eq_getElem?_getD, List.getElem?_map] at hv ⊢; rw [List.getElem?_eq_getElem hi] at hv ⊢; simpa using hv)
  exact Go.st (fun t st => X.caload hx (by rw [eT]; exact A1.1) (State.isArrayOf_alike hZ.alike A1.2.1) A1.2.2 hin hat (g := mkF m pc L (.int (Int32.ofNat i) :: .ref a :: r)) rfl rfl (hb hby d) t st) k
/-- arraylength -/
theorem Go.alen (W : Wk nw EL n0 Z a0 own nm cd ml ret p l e R s m args below meth c T h xs cells slots) {a : Addr} {ka : ClassId} {ty : FieldType} {z : Int32} {vs : List Value} {dv : Value} (d : Dec cd pc .arraylength 1 n) (A : Arv Z h a ka ty z vs dv)
    (k : Go p e below F T (mkF m n L (.int z :: r))) : Go p e below F T (mkF m pc L (.ref a :: r)) := by
  obtain ⟨vm0, k0, locs, X, eT, hS, hk, hn, hZ, ho, hE, hC, hF, hO, hxs, hx, hby, rest⟩ := W
  obtain ⟨d, rfl⟩ := d
  obtain ⟨cl, A1, q1, S1, M1, H1, U1⟩ := id A
  have e1 := len_of S1 M1
  exact Go.st (fun t st => X.arraylength hx (by rw [eT]; exact A1.1) (State.isArrayOf_alike hZ.alike A1.2.1) (g := mkF m pc L (.ref a :: r)) rfl rfl (hb hby d) t (by rw [e1]; exact st)) k
/-- ldc of an int -/
theorem Go.ldcI (W : Wk nw EL n0 Z a0 own nm cd ml ret p l e R s m args below meth c T h xs cells slots) {ix : Nat} {v : Int32} (d : Dec cd pc (.ldc ix) 2 n) (w : (Cond.constant own ix v).before a0 Z = true)
    (k : Go p e below F T (mkF m n L (.int v :: r))) : Go p e below F T (mkF m pc L r) := by
  obtain ⟨vm0, k0, locs, X, eT, hS, hk, hn, hZ, ho, hE, hC, hF, hO, hxs, hx, hby, rest⟩ := W
  obtain ⟨d, rfl⟩ := d
  exact Go.st (fun t st => X.ldcInt hx ho (mv hZ w) (g := mkF m pc L r) rfl (hb hby d) t st) k
theorem Go.ldc2J (W : Wk nw EL n0 Z a0 own nm cd ml ret p l e R s m args below meth c T h xs cells slots) {ix : Nat} {v : Int64} (d : Dec cd pc (.ldc2_w ix) 3 n) (w : (Cond.constantLong own ix v).before a0 Z = true)
    (k : Go p e below F T (mkF m n L (.long v :: r))) : Go p e below F T (mkF m pc L r) := by
  obtain ⟨vm0, k0, locs, X, eT, hS, hk, hn, hZ, ho, hE, hC, hF, hO, hxs, hx, hby, rest⟩ := W
  obtain ⟨d, rfl⟩ := d
  exact Go.st (fun t st => X.ldc2Long hx ho (mv hZ w) (g := mkF m pc L r) rfl (hb hby d) t st) k
/-! the ends -/
theorem Go.fin (W : Wk nw EL n0 Z a0 own nm cd ml ret p l e R s m args below meth c T h xs cells slots) {kc ks : Nat} {Q : Option Value → Heap → Prop} {v : Option Value} {g : JFrame} (hc : cells ≤ kc) (hs : slots ≤ ks) (hQ : Q v h) (hv : ret = none → v = none)
    (st : ∀ vm0 locs fs, Stand p l e R (s.setVm vm0) m args below meth c T locs cells slots → p.tables.exec = Jvm.exec → c.code = cd → meth.sig.returnType = ret → (∀ (f : JFrame) (acts : List Action), f.method = m → f.locked = none → f.entered = [] → (doReturn e (T.setTop f) acts v).1 = T.setFrames fs) → Steps p.tables e below (T.setTop g) (T.setFrames fs)) :
    Go p e below (Endp nw EL n0 Z below s kc ks Q) T g := by
  obtain ⟨vm0, k0, locs, X, eT, hS, hk, hn, hZ, ho, hE, hC, hF, hO, hxs, hx, hby, hml, hrt, hlk, hnm⟩ := W
  obtain ⟨fs, hr, hrun, hended, r1, r2, r3, r4⟩ := X.leaveW hS (by rw [eT]; exact hk) (v := v) (fun q => hv (hrt ▸ q)) hlk
  have eh : (T.setFrames fs).heap = h := eT
  refine ⟨T.setFrames fs, st vm0 locs fs X hx hby hrt hr, hrun, v, locs, hended, by rw [eh]; exact hQ, hF, by rw [eh]; exact hO, ?_, ⟨r1, r2, r3, r4.mono hc hs⟩, fun q => ?_⟩
  · show CHr Z EL s.vm s.heap T.vm T.heap
    rw [eT]; exact hC.trans (CHv.at X hZ hE hC.1)
  · exact State.WarmedH.trans (t := s.setVm vm0) (hn q) X.warmed
theorem Go.iret (W : Wk nw EL n0 Z a0 own nm cd ml (some t) p l e R s m args below meth c T h xs cells slots) {kc ks : Nat} {Q : Option Value → Heap → Prop} {z : Int32} (d : Dec cd pc .ireturn 1 n) (ht : t = .int ∨ t = .boolean ∨ t = .byte ∨ t = .char ∨ t = .short) (hn : narrow t (.int z) = .int z) (hc : cells ≤ kc) (hs : slots ≤ ks) (hQ : Q (some (.int z)) h) :
    Go p e below (Endp nw EL n0 Z below s kc ks Q) T (mkF m pc L (.int z :: r)) :=
  Go.fin W hc hs hQ (fun q => nomatch q) (fun vm0 locs fs X hx hby hrt hr => retOut X hx hrt hn (Or.inl ⟨rfl, ht, z, rfl⟩) (hb hby d.1) hr)
theorem Go.aret (W : Wk nw EL n0 Z a0 own nm cd ml (some t) p l e R s m args below meth c T h xs cells slots) {kc ks : Nat} {Q : Option Value → Heap → Prop} {v : Value} (d : Dec cd pc .areturn 1 n) (ht : t.isReference = true) (hv : v.isRef = true) (hn : narrow t v = v) (hc : cells ≤ kc) (hs : slots ≤ ks) (hQ : Q (some v) h) :
    Go p e below (Endp nw EL n0 Z below s kc ks Q) T (mkF m pc L (v :: r)) :=
  Go.fin W hc hs hQ (fun q => nomatch q) (fun vm0 locs fs X hx hby hrt hr => retOut X hx hrt hn (Or.inr (Or.inr (Or.inr (Or.inr ⟨rfl, ht, hv⟩)))) (hb hby d.1) hr)
theorem Go.vret (W : Wk nw EL n0 Z a0 own nm cd ml none p l e R s m args below meth c T h xs cells slots) {kc ks : Nat} {Q : Option Value → Heap → Prop} (d : Dec cd pc .return_ 1 n) (hc : cells ≤ kc) (hs : slots ≤ ks) (hQ : Q none h) :
    Go p e below (Endp nw EL n0 Z below s kc ks Q) T (mkF m pc L []) :=
  Go.fin W hc hs hQ (fun _ => rfl) (fun vm0 locs fs X hx hby hrt hr => X.returnOut hx hrt (hb hby d.1) hr)
/-! contracts -/
theorem Ctr.body {y : MethodName} {bytes : ByteArray} {maxL : Nat} {rm : Room} {as' : Array Value} {Q : Option Value → Heap → Prop} {L0 : Array Slot} (hpn : plainFor y = true) (hE : EW Z a0 EL) (hO : Old Z n0 h) (hxs : ∀ x ∈ xs, n0 ≤ x ∧ x < h.size) (ef : ∀ m, entryFrame m as' maxL = mkF m 0 L0 [])
    (hB : ∀ p e s m below meth c T, Wk nw EL n0 Z a0 y.cls y.name bytes maxL ret p l e rm s m as' below meth c T h xs 0 0 → Go p e below (Endp nw EL n0 Z below s rm.cells rm.slots Q) T (mkF m 0 L0 [])) :
    Ctr nw EL n0 Z xs l y bytes maxL ret rm as' h Q := by
  intro ws
  refine MetFree.of_bodySF hpn hisR ?_
  intro p e s m args below meth c s₁ Bd hml hP hK
  obtain ⟨rfl, hh, hZ, hCH, hS⟩ := hP
  have X0 : Stand p l e rm s m args below meth c s₁ [] 0 0 := Stand.of_body Bd
  have e0 : s₁.heap = h := by rw [← hh, Bd.state]; rfl
  have W : Wk nw EL n0 Z a0 y.cls y.name bytes maxL ret p l e rm s m args below meth c s₁ h xs 0 0 :=
    ⟨s.vm, 0, [], X0, e0, (State.WarmedH.refl s).since 0, Nat.zero_le _, fun _ => State.WarmedH.refl s, hZ, findClass_of_methodNamed Bd.named, hE, by rw [hh]; exact CHr.refl hCH, Fr.nil n0, hO, fun x hm => ⟨(hxs x hm).1, (hxs x hm).2, hS x hm⟩, Bd.exec, Bd.bytes, hml, Bd.returns, Bd.notSynchronized, (name_of_methodNamed Bd.named Bd.method).1⟩
  obtain ⟨t, st, hrun, v, Lc, hend, q1, q2, q3, q4, q5, q6⟩ := hB p e s m below meth c s₁ W
  exact ⟨t, .returned v, castTop (ef m) st, hrun, hend, v, Lc, rfl, q1, q2, q3, q4, q5, q6⟩
theorem Ctr.call {y : MethodName} {bytes : ByteArray} {maxL : Nat} {rt : Option FieldType} {rm : Room} {as' : Array Value} {Q : Option Value → Heap → Prop} {xs' : List Addr} {wt len : Nat} (hM : Ctr nw EL n0 Z xs' l y bytes maxL rt rm as' h Q) (hE : EW Z a0 EL) (wc : (Cond.code y bytes maxL rt).before a0 Z = true) (wz : (Cond.initialized y.cls).before a0 Z = true)
    (hxs : ∀ x ∈ xs', x ∈ xs) (hf : rm.frames + 1 ≤ R.frames) (hl : wt + (maxL + 11) + rm.locals ≤ R.locals) : Call nw EL n0 Z xs l R p e below s args y len wt as' h rm.cells rm.slots Q := by
  intro vm0 hZ hCH hO hX
  refine BackS.of_freeW (bytes := bytes) (maxL := maxL) (ret := rt) (E := fun _ first o t Lc k n => k = rm.cells ∧ n = rm.slots ∧ (∃ v, o = .returned v ∧ Q v t.heap) ∧ Fr n0 Lc ∧ Old Z n0 t.heap ∧ CHr Z EL first.vm first.heap t.vm t.heap ∧ (nw → first.WarmedH t.vm)) (hM []) hf hl ?_ ?_ (fun _ _ _ _ _ _ _ _ _ => trivial) ?_ ?_
  · intro m meth c A a Y hp
    have hU : Z.Warmed39 A.U.vm := wtrans (s := s.setVm vm0) hZ Y.warmed
    exact ⟨by show (Cond.and _ .tt).before a A.U = true; rw [Cond.before_and, mv hU wc]; rfl, mv hU wc, mv hU wz, hp.2.2.1, hp.2.2.2⟩
  · intro m meth c A a g mk Y hp
    have K := CHv.at Y hZ hE hCH
    exact ⟨hp.1, hp.2.1, wtrans (s := s.setVm vm0) hZ Y.warmed, K.1, fun x hm => K.safe (hX x (hxs x hm)).2.1 (hX x (hxs x hm)).2.2⟩
  · rintro a first o t ⟨v, Lc, h1, h2, h3, h4, h5, h6, h7⟩
    exact ⟨Lc, _, _, h6, rfl, rfl, ⟨v, h1, h2⟩, h3, h4, h5, h7⟩
  · rintro m meth c A a g mk v t Lc k n Y hp hq hR ⟨e1, e2, ⟨v', e3, e4⟩, e5, e6, e7, e8⟩
    cases e3; subst e1 e2
    refine ⟨Lc, e4, rfl, rfl, rfl, e5, e6, (CHv.at Y hZ hE hCH).trans ?_, fun q => ?_⟩
    · rw [← hp.2.1]; exact e7
    · exact State.WarmedH.trans (t := (A.U.calling g mk a)) Y.warmed (e8 q)
theorem Call.of_back {y : MethodName} {as' : Array Value} {Q : Option Value → Heap → Prop} {Qb : Option Value → Heap → List Loc → Prop} {len wt kc ks : Nat} (hE : EW Z a0 EL)
    (hB : ∀ vm0, Z.Warmed39 vm0 → Old Z n0 h → Back l R p e below (s.setVm vm0) args y len wt (fun A a => a = as' ∧ A.U.heap = h ∧ A.cells + kc ≤ R.cells ∧ A.slots + ks ≤ R.slots) (fun A _ v B => ∃ Lc, Qb v B.U.heap Lc ∧ B.locs = A.locs ++ Lc ∧ B.cells = A.cells + kc ∧ B.slots = A.slots + ks))
    (hQ : ∀ v h' Lc, Old Z n0 h → Qb v h' Lc → Q v h' ∧ Fr n0 Lc ∧ ∃ ws, Keep h h' ws ∧ ∀ x ∈ ws, x ∈ xs) : Call nw EL n0 Z xs l R p e below s args y len wt as' h kc ks Q := by
  intro vm0 hZ hCH hO hX m meth c A g ig mk a X hg hsize hdg hW hn hp
  obtain ⟨v, B, X', ⟨Lc, q, r1, r2, r3⟩, st⟩ := hB vm0 hZ hO m meth c A g ig mk a X hg hsize hdg hW hn hp
  obtain ⟨hq, hF, ws, K, hws⟩ := hQ v _ Lc hO q
  have C1 : CHr Z EL vm0 h vm0 B.U.heap := CHr.keep K (fun x hm => (hX x (hws x hm)).2.2) hCH
  exact ⟨v, B, X'.retabled X'.warmed.wide, X'.warmed.since _, by rw [hp.2.1]; exact K.1, ⟨Lc, hq, r1, r2, r3, hF, hO.keep K (fun x hm => (hX x (hws x hm)).1), C1.trans (CHv.at X' hZ hE C1.1), fun _ => X'.warmed⟩, st⟩
theorem Call.mono {y : MethodName} {as' : Array Value} {Q : Option Value → Heap → Prop} {len wt kc ks kc' ks' : Nat} (hK : Call nw EL n0 Z xs l R p e below s args y len wt as' h kc ks Q) (h1 : kc ≤ kc') (h2 : ks ≤ ks') : Call nw EL n0 Z xs l R p e below s args y len wt as' h kc' ks' Q := by
  intro vm0 hZ hCH hO hX m meth c A g ig mk a X hg hsize hdg hW hn hp
  obtain ⟨v, B, X', hS, hg', ⟨Lc, q, r1, r2, r3, rest⟩, st⟩ := hK vm0 hZ hCH hO hX m meth c A g ig mk a X hg hsize hdg hW hn ⟨hp.1, hp.2.1, Nat.le_trans (Nat.add_le_add_left h1 _) hp.2.2.1, Nat.le_trans (Nat.add_le_add_left h2 _) hp.2.2.2⟩
  exact ⟨v, ⟨B.U, B.locs, A.cells + kc', A.slots + ks'⟩, ⟨X'.admits, X'.cas, X'.clock, X'.frames, X'.room, X'.hears, X'.method, X'.code, X'.here, X'.tail, X'.warmed, X'.limits, X'.bytes, X'.same.mono (by rw [r2]; exact Nat.add_le_add_left h1 _) (by rw [r3]; exact Nat.add_le_add_left h2 _)⟩, hS, hg', ⟨Lc, q, r1, rfl, rfl, rest⟩, st⟩
theorem Call.weaken {y : MethodName} {as' : Array Value} {Q Q' : Option Value → Heap → Prop} {len wt kc ks : Nat} (hK : Call nw EL n0 Z xs l R p e below s args y len wt as' h kc ks Q) (hq : ∀ v h', Q v h' → Q' v h') : Call nw EL n0 Z xs l R p e below s args y len wt as' h kc ks Q' := by
  intro vm0 hZ hCH hO hX m meth c A g ig mk a X hg hsize hdg hW hn hp
  obtain ⟨v, B, X', hS, hg', ⟨Lc, q, rest⟩, st⟩ := hK vm0 hZ hCH hO hX m meth c A g ig mk a X hg hsize hdg hW hn hp
  exact ⟨v, B, X', hS, hg', ⟨Lc, hq _ _ q, rest⟩, st⟩
theorem Wk.after {vm0 k0 locs} (X : Stand p l e R (s.setVm vm0) m args below meth c T locs cells slots) (eT : T.heap = h) (hS : s.Since vm0 k0) (hk : k0 ≤ h.size) (hn : nw → s.WarmedH vm0) (hZ : Z.Warmed39 vm0) (ho : vm0.findClass own = some m.cls) (hE : EW Z a0 EL) (hC : CHr Z EL s.vm s.heap vm0 h) (hF : Fr n0 locs) (hO : Old Z n0 h) (hxs : ∀ x ∈ xs, n0 ≤ x ∧ x < h.size ∧ Safe Z EL vm0 h x)
    (rest : p.tables.exec = Jvm.exec ∧ c.code = cd ∧ c.maxLocals = ml ∧ meth.sig.returnType = ret ∧ meth.locks = false ∧ meth.name = nm) {B : Pt} {kc ks : Nat} {Lc : List Loc} (X' : Stand p l e R ((s.setVm vm0).setVm B.U.vm) m args below meth c B.U B.locs B.cells B.slots) (hS2 : (s.setVm vm0).Since B.U.vm B.U.heap.size) (hg : T.heap.size ≤ B.U.heap.size)
    (r1 : B.locs = locs ++ Lc) (r2 : B.cells = cells + kc) (r3 : B.slots = slots + ks) (hF' : Fr n0 Lc) (hO' : Old Z n0 B.U.heap) (hC' : CHr Z EL vm0 h B.U.vm B.U.heap) (hn' : nw → (s.setVm vm0).WarmedH B.U.vm) :
    Wk nw EL n0 Z a0 own nm cd ml ret p l e R s m args below meth c B.U B.U.heap xs (cells + kc) (slots + ks) := by
  rw [r1, r2, r3] at X'
  exact ⟨B.U.vm, B.U.heap.size, _, X', rfl, hS.trans hS2 (Nat.le_trans hk (eT ▸ hg)), Nat.le_refl _, fun q => State.WarmedH.trans (t := s.setVm vm0) (hn q) (hn' q), State.Warmed39.trans (t := s.setVm vm0) hZ hS2.1, (hS2.1.alike.findClass _ _).trans ho, hE, hC.trans hC', hF.app hF', hO', fun x hm => ⟨(hxs x hm).1, Nat.lt_of_lt_of_le (hxs x hm).2.1 (eT ▸ hg), hC'.safe (hxs x hm).2.1 (hxs x hm).2.2⟩, rest⟩
/-- invokestatic by a contract -/
theorem Go.invs (W : Wk nw EL n0 Z a0 own nm cd ml ret p l e R s m args below meth c T h xs cells slots) {y : MethodName} {bytes : ByteArray} {maxL ix wt kc ks cells' slots' : Nat} {rt : Option FieldType} {argsL rest st0 : List Value} {Q : Option Value → Heap → Prop} {ps : List FieldType} {pr : Option FieldType} (hK : Call nw EL n0 Z xs l R p e below s args y 3 wt argsL.toArray h kc ks Q) (d : Dec cd pc (.invokestatic ix) 3 n)
    (w1 : (Cond.methodLink own ix y).before a0 Z = true) (w2 : (Cond.static y).before a0 Z = true) (w3 : (Cond.initialized y.cls).before a0 Z = true) (w4 : (Cond.code y bytes maxL rt).before a0 Z = true) (hy : y.cls ≠ "java/lang/invoke/MethodHandle" ∧ y.cls ≠ "java/lang/invoke/VarHandle")
    (hpd : parseMethodDescriptor y.desc = some ⟨ps, pr⟩) (hlen : argsL.length = ps.length) (hsz : L.size = ml) (hst : st0 = argsL.reverse ++ rest) (hw : (rest.map fun v => v.category).sum ≤ wt) (hc : cells + kc = cells') (hs : slots + ks = slots') (hc' : cells' ≤ R.cells) (hs' : slots' ≤ R.slots)
    (k : ∀ T' h' v, Wk nw EL n0 Z a0 own nm cd ml ret p l e R s m args below meth c T' h' xs cells' slots' → h.size ≤ h'.size → Q v h' → Go p e below F T' (mkF m n L (v.toList ++ rest))) : Go p e below F T (mkF m pc L st0) := by
  obtain ⟨vm0, k0, locs, X, eT, hS, hk, hn, hZ, ho, hE, hC, hF, hO, hxs, hx, hby, hml, rst⟩ := W
  obtain ⟨d, rfl⟩ := d
  subst hc hs hst
  obtain ⟨v, vm₁, B, hW1, X', hS2, hg, ⟨Lc, hq, r1, r2, r3, hF', hO', hC', hn'⟩, st⟩ := callSS X hx ho (mv hZ w1) (mv hZ w2) (mv hZ w3) (mv hZ w4) hy (hK vm0 hZ hC.1 hO hxs) (g := mkF m pc L (argsL.reverse ++ rest)) rfl (hsz.trans hml.symm) (argsL := argsL) (rest := rest) (lenOf hpd hlen) rfl (by show 2 * 0 + _ ≤ _; omega) (hb hby d) (fun _ _ => ⟨rfl, eT, hc', hs'⟩)
  exact Go.run st (k B.U B.U.heap v (Wk.after X eT hS hk hn hZ ho hE hC hF hO hxs ⟨hx, hby, hml, rst⟩ X' hS2 hg r1 r2 r3 hF' hO' hC' hn') (eT ▸ hg) hq)
/-- a constructor by a contract -/
theorem Go.invi (W : Wk nw EL n0 Z a0 own nm cd ml ret p l e R s m args below meth c T h xs cells slots) {y : MethodName} {bytes : ByteArray} {maxL ix wt kc ks cells' slots' : Nat} {argsL rest st0 : List Value} {b : Addr} {Q : Heap → Prop} {ps : List FieldType} {pr : Option FieldType} (hK : Call nw EL n0 Z xs l R p e below s args y 3 wt (.ref b :: argsL).toArray h kc ks (RN Q)) (d : Dec cd pc (.invokespecial ix) 3 n)
    (hy1 : y.name = "<init>") (w1 : (Cond.methodLink own ix y).before a0 Z = true) (w2 : (Cond.instanceMethod y).before a0 Z = true) (w4 : (Cond.code y bytes maxL none).before a0 Z = true) (hy : y.cls ≠ "java/lang/invoke/MethodHandle" ∧ y.cls ≠ "java/lang/invoke/VarHandle")
    (hpd : parseMethodDescriptor y.desc = some ⟨ps, pr⟩) (hlen : argsL.length = ps.length) (hsz : L.size = ml) (hst : st0 = argsL.reverse ++ .ref b :: rest) (hw : (rest.map fun v => v.category).sum ≤ wt) (hc : cells + kc = cells') (hs : slots + ks = slots') (hc' : cells' ≤ R.cells) (hs' : slots' ≤ R.slots)
    (k : ∀ T' h', Wk nw EL n0 Z a0 own nm cd ml ret p l e R s m args below meth c T' h' xs cells' slots' → h.size ≤ h'.size → Q h' → Go p e below F T' (mkF m n L rest)) : Go p e below F T (mkF m pc L st0) := by
  obtain ⟨vm0, k0, locs, X, eT, hS, hk, hn, hZ, ho, hE, hC, hF, hO, hxs, hx, hby, hml, rst⟩ := W
  obtain ⟨d, rfl⟩ := d
  subst hc hs hst
  obtain ⟨v, vm₁, B, hW1, X', hS2, hg, ⟨Lc, hq, r1, r2, r3, hF', hO', hC', hn'⟩, st⟩ := X.specialBackS hx hy1 ho (mv hZ w1) (mv hZ w2) (mv hZ w4) hy (hK vm0 hZ hC.1 hO hxs) (g := mkF m pc L (argsL.reverse ++ .ref b :: rest)) rfl (hsz.trans hml.symm) (Steps.refl _) (a := b) (argsL := argsL) (rest := rest) (lenOf hpd hlen) rfl (by show 2 * 0 + _ ≤ _; omega) (hb hby d) (fun _ _ => ⟨rfl, eT, hc', hs'⟩)
  obtain ⟨rfl, hq⟩ := hq
  exact Go.run st (k B.U B.U.heap (Wk.after X eT hS hk hn hZ ho hE hC hF hO hxs ⟨hx, hby, hml, rst⟩ X' hS2 hg r1 r2 r3 hF' hO' hC' hn') (eT ▸ hg) hq)
/-- invokevirtual by a contract -/
theorem Go.invv (W : Wk nw EL n0 Z a0 own nm cd ml ret p l e R s m args below meth c T h xs cells slots) {y z : MethodName} {C : String} {ix wt kc ks cells' slots' : Nat} {argsL rest st0 : List Value} {b : Addr} {Q : Option Value → Heap → Prop} {ps : List FieldType} {pr : Option FieldType} (hK : Call nw EL n0 Z xs l R p e below s args z 3 wt (.ref b :: argsL).toArray h kc ks Q) (d : Dec cd pc (.invokevirtual ix) 3 n)
    (w1 : (Cond.methodLink own ix y).before a0 Z = true) (w2 : (Cond.declares y).before a0 Z = true) (w3 : (Cond.selects C y z).before a0 Z = true) (w4 : (Cond.instanceMethod z).before a0 Z = true) (hy : y.cls ≠ "java/lang/invoke/MethodHandle" ∧ y.cls ≠ "java/lang/invoke/VarHandle") (E : Exa Z h b C)
    (hpd : parseMethodDescriptor y.desc = some ⟨ps, pr⟩) (hlen : argsL.length = ps.length) (hsz : L.size = ml) (hst : st0 = argsL.reverse ++ .ref b :: rest) (hw : (rest.map fun v => v.category).sum ≤ wt) (hc : cells + kc = cells') (hs : slots + ks = slots') (hc' : cells' ≤ R.cells) (hs' : slots' ≤ R.slots)
    (hnf : ∀ vm0, Z.Warmed39 vm0 → NotFace (s.setVm vm0) y)
    (k : ∀ T' h' v, Wk nw EL n0 Z a0 own nm cd ml ret p l e R s m args below meth c T' h' xs cells' slots' → h.size ≤ h'.size → Q v h' → Go p e below F T' (mkF m n L (v.toList ++ rest))) : Go p e below F T (mkF m pc L st0) := by
  obtain ⟨vm0, k0, locs, X, eT, hS, hk, hn, hZ, ho, hE, hC, hF, hO, hxs, hx, hby, hml, rst⟩ := W
  obtain ⟨d, rfl⟩ := d
  subst hc hs hst
  obtain ⟨cq, kq, qa, qb, qc⟩ := isOf (s := s.setVm vm0) hZ eT E
  obtain ⟨v, vm₁, B, hW1, X', hS2, hg, ⟨Lc, hq, r1, r2, r3, hF', hO', hC', hn'⟩, st⟩ := X.virtualBackS hx ho (mv hZ w1) (mv hZ w2) (hnf vm0 hZ) (mv hZ w3) (mv hZ w4) hy (hK vm0 hZ hC.1 hO hxs) qa qc (g := mkF m pc L (argsL.reverse ++ .ref b :: rest)) rfl (hsz.trans hml.symm) (Steps.refl _) (argsL := argsL) (rest := rest) (lenOf hpd hlen) rfl (by show 2 * 0 + _ ≤ _; omega) (hb hby d) (fun _ _ => ⟨rfl, eT, hc', hs'⟩)
  exact Go.run st (k B.U B.U.heap v (Wk.after X eT hS hk hn hZ ho hE hC hF hO hxs ⟨hx, hby, hml, rst⟩ X' hS2 hg r1 r2 r3 hF' hO' hC' hn') (eT ▸ hg) hq)

theorem Go.invs1 (W : Wk nw EL n0 Z a0 own nm cd ml ret p l e R s m args below meth c T h xs cells slots) {y : MethodName} {bytes : ByteArray} {maxL ix wt kc ks cells' slots' : Nat} {rt : Option FieldType} {argsL rest st0 : List Value} {Q : Value → Heap → Prop} {ps : List FieldType} {pr : Option FieldType} (hK : Call nw EL n0 Z xs l R p e below s args y 3 wt argsL.toArray h kc ks (RV Q)) (d : Dec cd pc (.invokestatic ix) 3 n)
    (w1 : (Cond.methodLink own ix y).before a0 Z = true) (w2 : (Cond.static y).before a0 Z = true) (w3 : (Cond.initialized y.cls).before a0 Z = true) (w4 : (Cond.code y bytes maxL rt).before a0 Z = true) (hy : y.cls ≠ "java/lang/invoke/MethodHandle" ∧ y.cls ≠ "java/lang/invoke/VarHandle")
    (hpd : parseMethodDescriptor y.desc = some ⟨ps, pr⟩) (hlen : argsL.length = ps.length) (hsz : L.size = ml) (hst : st0 = argsL.reverse ++ rest) (hw : (rest.map fun v => v.category).sum ≤ wt) (hc : cells + kc = cells') (hs : slots + ks = slots') (hc' : cells' ≤ R.cells) (hs' : slots' ≤ R.slots)
    (k : ∀ T' h' v, Wk nw EL n0 Z a0 own nm cd ml ret p l e R s m args below meth c T' h' xs cells' slots' → h.size ≤ h'.size → Q v h' → Go p e below F T' (mkF m n L (v :: rest))) : Go p e below F T (mkF m pc L st0) :=
  Go.invs W hK d w1 w2 w3 w4 hy hpd hlen hsz hst hw hc hs hc' hs' (fun T' h' v W' g q => by obtain ⟨w, rfl, q⟩ := q; exact k T' h' w W' g q)
theorem Go.invs0 (W : Wk nw EL n0 Z a0 own nm cd ml ret p l e R s m args below meth c T h xs cells slots) {y : MethodName} {bytes : ByteArray} {maxL ix wt kc ks cells' slots' : Nat} {rt : Option FieldType} {argsL rest st0 : List Value} {Q : Heap → Prop} {ps : List FieldType} {pr : Option FieldType} (hK : Call nw EL n0 Z xs l R p e below s args y 3 wt argsL.toArray h kc ks (RN Q)) (d : Dec cd pc (.invokestatic ix) 3 n)
    (w1 : (Cond.methodLink own ix y).before a0 Z = true) (w2 : (Cond.static y).before a0 Z = true) (w3 : (Cond.initialized y.cls).before a0 Z = true) (w4 : (Cond.code y bytes maxL rt).before a0 Z = true) (hy : y.cls ≠ "java/lang/invoke/MethodHandle" ∧ y.cls ≠ "java/lang/invoke/VarHandle")
    (hpd : parseMethodDescriptor y.desc = some ⟨ps, pr⟩) (hlen : argsL.length = ps.length) (hsz : L.size = ml) (hst : st0 = argsL.reverse ++ rest) (hw : (rest.map fun v => v.category).sum ≤ wt) (hc : cells + kc = cells') (hs : slots + ks = slots') (hc' : cells' ≤ R.cells) (hs' : slots' ≤ R.slots)
    (k : ∀ T' h', Wk nw EL n0 Z a0 own nm cd ml ret p l e R s m args below meth c T' h' xs cells' slots' → h.size ≤ h'.size → Q h' → Go p e below F T' (mkF m n L rest)) : Go p e below F T (mkF m pc L st0) :=
  Go.invs W hK d w1 w2 w3 w4 hy hpd hlen hsz hst hw hc hs hc' hs' (fun T' h' v W' g q => by obtain ⟨rfl, q⟩ := q; exact k T' h' W' g q)
theorem Go.invv1 (W : Wk nw EL n0 Z a0 own nm cd ml ret p l e R s m args below meth c T h xs cells slots) {y : MethodName} {C : String} {ix wt kc ks cells' slots' : Nat} {argsL rest st0 : List Value} {b : Addr} {Q : Value → Heap → Prop} {ps : List FieldType} {pr : Option FieldType} (hK : Call nw EL n0 Z xs l R p e below s args y 3 wt (.ref b :: argsL).toArray h kc ks (RV Q)) (d : Dec cd pc (.invokevirtual ix) 3 n)
    (w1 : (Cond.methodLink own ix y).before a0 Z = true) (w2 : (Cond.declares y).before a0 Z = true) (w3 : (Cond.selects C y y).before a0 Z = true) (w4 : (Cond.instanceMethod y).before a0 Z = true) (hy : y.cls ≠ "java/lang/invoke/MethodHandle" ∧ y.cls ≠ "java/lang/invoke/VarHandle") (E : Exa Z h b C)
    (hpd : parseMethodDescriptor y.desc = some ⟨ps, pr⟩) (hlen : argsL.length = ps.length) (hsz : L.size = ml) (hst : st0 = argsL.reverse ++ .ref b :: rest) (hw : (rest.map fun v => v.category).sum ≤ wt) (hc : cells + kc = cells') (hs : slots + ks = slots') (hc' : cells' ≤ R.cells) (hs' : slots' ≤ R.slots)
    (k : ∀ T' h' v, Wk nw EL n0 Z a0 own nm cd ml ret p l e R s m args below meth c T' h' xs cells' slots' → h.size ≤ h'.size → Q v h' → Go p e below F T' (mkF m n L (v :: rest))) : Go p e below F T (mkF m pc L st0) :=
  Go.invv W hK d w1 w2 w3 w4 hy E hpd hlen hsz hst hw hc hs hc' hs' (fun _ hZ => notFace_of_selects (args := #[]) (mvT hZ w3)) (fun T' h' v W' g q => by obtain ⟨w, rfl, q⟩ := q; exact k T' h' w W' g q)
theorem Go.invv0 (W : Wk nw EL n0 Z a0 own nm cd ml ret p l e R s m args below meth c T h xs cells slots) {y : MethodName} {C : String} {ix wt kc ks cells' slots' : Nat} {argsL rest st0 : List Value} {b : Addr} {Q : Heap → Prop} {ps : List FieldType} {pr : Option FieldType} (hK : Call nw EL n0 Z xs l R p e below s args y 3 wt (.ref b :: argsL).toArray h kc ks (RN Q)) (d : Dec cd pc (.invokevirtual ix) 3 n)
    (w1 : (Cond.methodLink own ix y).before a0 Z = true) (w2 : (Cond.declares y).before a0 Z = true) (w3 : (Cond.selects C y y).before a0 Z = true) (w4 : (Cond.instanceMethod y).before a0 Z = true) (hy : y.cls ≠ "java/lang/invoke/MethodHandle" ∧ y.cls ≠ "java/lang/invoke/VarHandle") (E : Exa Z h b C)
    (hpd : parseMethodDescriptor y.desc = some ⟨ps, pr⟩) (hlen : argsL.length = ps.length) (hsz : L.size = ml) (hst : st0 = argsL.reverse ++ .ref b :: rest) (hw : (rest.map fun v => v.category).sum ≤ wt) (hc : cells + kc = cells') (hs : slots + ks = slots') (hc' : cells' ≤ R.cells) (hs' : slots' ≤ R.slots)
    (k : ∀ T' h', Wk nw EL n0 Z a0 own nm cd ml ret p l e R s m args below meth c T' h' xs cells' slots' → h.size ≤ h'.size → Q h' → Go p e below F T' (mkF m n L rest)) : Go p e below F T (mkF m pc L st0) :=
  Go.invv W hK d w1 w2 w3 w4 hy E hpd hlen hsz hst hw hc hs hc' hs' (fun _ hZ => notFace_of_selects (args := #[]) (mvT hZ w3)) (fun T' h' v W' g q => by obtain ⟨rfl, q⟩ := q; exact k T' h' W' g q)
end Walk
section Strs
variable {Z : State} {h h' : Heap} {a : Addr} {cs : List Int32}
/-- a Latin-1 String and its chars -/
def Str (Z : State) (h : Heap) (a : Addr) (cs : List Int32) : Prop := Exa Z h a "java/lang/String" ∧ Fld Z h a "java/lang/String" "coder" "B" (.int 0) ∧ (∃ (b : Addr) (k : ClassId), Fld Z h a "java/lang/String" "value" "[B" (.ref b) ∧ Arv Z h b k .byte (Int32.ofNat cs.length) ((cs.map fun c => c.toInt8.toInt32).map Value.int) (.int 0)) ∧ (∀ c ∈ cs, ¬ c < 0 ∧ ¬ (255 : Int32) < c) ∧ cs.length ≤ 4000
theorem Str.exa (S : Str Z h a cs) : Exa Z h a "java/lang/String" := S.1
theorem Str.lt (S : Str Z h a cs) : a < h.size := S.1.lt
theorem Str.ext (S : Str Z h a cs) (E : Ext h h') : Str Z h' a cs := by
  obtain ⟨h1, h2, ⟨b, k, h3, h4⟩, r⟩ := S
  exact ⟨h1.ext E, h2.ext E, ⟨b, k, h3.ext E, h4.ext E⟩, r⟩
/-- over the writing of cells made since h0 -/
theorem ext_trans {h0 : Heap} (E : Ext h0 h) (E' : Ext h h') : Ext h0 h' := ⟨Nat.le_trans E.1 E'.1, fun x c q => E'.2 x c (E.2 x c q)⟩
theorem ext_refl (h : Heap) : Ext h h := ⟨Nat.le_refl _, fun _ _ q => q⟩
theorem ext_eq (e : h' = h) : Ext h h' := e ▸ ext_refl h
theorem ext_keep {h0 : Heap} {ws : List Addr} (E : Ext h0 h) (K : Keep h h' ws) (q : ∀ x ∈ ws, h0.size ≤ x) : Ext h0 h' :=
  ⟨Nat.le_trans E.1 K.1, fun x c r => K.2.1 x c (E.2 x c r) fun z => absurd (Array.getElem?_eq_some_iff.mp r).1 (Nat.not_lt.mpr (q x z))⟩
theorem keep_ext (E : Ext h h') : Keep h h' [] := (Keep.refl h []).ext E
/-- a String just made, not yet built -/
def NewS (Z : State) (h : Heap) (a : Addr) : Prop := Exa Z h a "java/lang/String" ∧ Fld Z h a "java/lang/String" "value" "[B" .null ∧ Fld Z h a "java/lang/String" "coder" "B" (.int 0)
theorem NewS.ext (S : NewS Z h a) (E : Ext h h') : NewS Z h' a := ⟨S.1.ext E, S.2.1.ext E, S.2.2.ext E⟩
theorem NewS.keep {ws : List Addr} (S : NewS Z h a) (K : Keep h h' ws) (q : a ∉ ws) : NewS Z h' a := ⟨S.1.keep K, S.2.1.keep K q, S.2.2.keep K q⟩
theorem nar_ok (x : Int32) : nar .char (x &&& 255) = x &&& 255 := i2c_mask x
theorem b255 (x : Int32) : ¬ (x &&& 255) < 0 ∧ ¬ (255 : Int32) < (x &&& 255) := by
  have t : ∀ k : Fin 256, ¬ (Int32.ofNat k.val) < 0 ∧ ¬ (255 : Int32) < (Int32.ofNat k.val) := by decide +kernel
  have h : (x &&& 255).toBitVec.toNat < 256 := by
    simp only [Int32.toBitVec_and, BitVec.toNat_and]
    exact Nat.lt_succ_of_le Nat.and_le_right
  have e : (x &&& 255) = Int32.ofNat (x &&& 255).toBitVec.toNat := by
    apply Int32.toBitVec_inj.mp
    show _ = BitVec.ofNat 32 _
    rw [BitVec.ofNat_toNat]; simp
  rw [e]
  exact t ⟨_, h⟩
theorem up_chars (cs : List Int32) (h : ∀ c ∈ cs, ¬ c < 0 ∧ ¬ (255 : Int32) < c) : ∀ c ∈ cs, ¬ c < 0 ∧ ¬ (65535 : Int32) < c := fun c hc => ⟨(h c hc).1, fun q => (h c hc).2 (by rw [Int32.lt_iff_toInt_lt] at q ⊢; have e1 : (65535 : Int32).toInt = 65535 := rfl; have e2 : (255 : Int32).toInt = 255 := rfl; omega)⟩
theorem all_nil {P : Int32 → Prop} : ∀ c ∈ ([] : List Int32), P c := fun _ q => nomatch q
theorem all_cons {P : Int32 → Prop} {x : Int32} {xs : List Int32} (h : P x) (r : ∀ c ∈ xs, P c) : ∀ c ∈ x :: xs, P c := fun c q => (List.mem_cons.mp q).elim (fun u => u ▸ h) (r c)
end Strs
section Ldc
variable {nw : Prop} {EL : List (String × Nat)} {n0 : Nat} {Z : State} {a0 : Array Value} {own nm : String} {cd : ByteArray} {ml : Nat} {ret : Option FieldType} {p : Program} {l : Launch} {e : Env} {R : Room} {s : State} {m : MethodId} {args : Array Value} {below : List Frame} {meth : Method} {c : Code} {T : State} {h : Heap} {xs : List Addr} {cells slots : Nat}
variable {F : State → Prop} {pc n : Nat} {L : Array Slot} {r : List Value}
/-- ldc of a String constant whose text is read -/
theorem Go.ldcS (W : Wk nw EL n0 Z a0 own nm cd ml ret p l e R s m args below meth c T h xs cells slots) {text : String} {ix nn cells' slots' : Nat} {cs : List Int32} (hnw : ¬ nw) (d : Dec cd pc (.ldc ix) 2 n) (w : (Cond.stringLink own ix text).before a0 Z = true) (wS : ∀ a ∈ Bundle.stringAtoms, a.before a0 Z = true) (hmem : (own, ix) ∈ EL)
    (ht : (∀ c ∈ text.toList, c.toNat < 256) ∧ text.toList.map (fun c => Value.int (Jvm.Lit.byteI c.toNat.toUInt16)) = ((cs.map fun c => c.toInt8.toInt32).map Value.int)) (hp : ∀ c ∈ cs, ¬ c < 0 ∧ ¬ (255 : Int32) < c) (hl4 : cs.length ≤ 4000) (hnn : 4 * text.toList.length ≤ nn) (hbig : nn ≤ 536870912) (hc : cells + 2 = cells') (hs : slots + (nn + 4) = slots') (hc' : cells' ≤ R.cells) (hs' : slots' ≤ R.slots)
    (k : ∀ T' h' a b kb, Wk nw EL n0 Z a0 own nm cd ml ret p l e R s m args below meth c T' h' xs cells' slots' → Ext h h' → Exa Z h' a "java/lang/String" → Fld Z h' a "java/lang/String" "coder" "B" (.int 0) → Fld Z h' a "java/lang/String" "value" "[B" (.ref b) → Arv Z h' b kb .byte (Int32.ofNat cs.length) ((cs.map fun c => c.toInt8.toInt32).map Value.int) (.int 0) → (∀ x ∈ xs, x ≠ a ∧ x ≠ b) → Str Z h' a cs → Go p e below F T' (mkF m n L (.ref a :: r))) : Go p e below F T (mkF m pc L r) := by
  obtain ⟨vm0, k0, locs, X, eT, hS, hk, hn, hZ, ho, hE, hC, hF, hO, hxs, hx, hby, rest⟩ := W
  obtain ⟨d, rfl⟩ := d
  subst hc hs
  have hz := in_of (i := 0) (k := cs.length + 1) rfl (by omega) (by omega)
  have hl : (Int32.ofNat cs.length).toNatClampNeg = ((cs.map fun c => c.toInt8.toInt32).map Value.int).length := by rw [clamp_nat (by omega)]; simp
  obtain ⟨a, T', h', k1, b, kb, X', e', E, hS', hk', hZ', ho', A1, A2, A3, A4, -, -, C1, -, hne, st⟩ := ldcCH X hx hZ ho w wS eT hS hk hE hmem hC.1 ht (by rw [Int32.lt_iff_toInt_lt, LawKit.toInt_of (n := Int32.ofNat cs.length) rfl (by omega)]; show ¬ (cs.length : Int) < 0; omega) hl (g := mkF m pc L r) rfl (hb hby d) hnn hbig hc' hs'
  have hX : ∀ x ∈ xs, n0 ≤ x ∧ x < h'.size ∧ Safe Z EL T'.vm h' x := fun x hm => ⟨(hxs x hm).1, Nat.lt_of_lt_of_le (hxs x hm).2.1 E.1, C1.safe (hxs x hm).2.1 (hxs x hm).2.2⟩
  exact Go.st st (k T' h' a b kb ⟨T'.vm, k1, locs, X', e', hS', hk', fun q => absurd q hnw, hZ', ho', hE, hC.trans C1, hF, hO.ext E, hX, hx, hby, rest⟩ E A1 A2 A3 A4 (fun x hm => hne x (hX x hm).2.2) ⟨A1, A2, ⟨b, kb, A3, A4⟩, hp, hl4⟩)
end Ldc
section Num
theorem toInt_nat {a : Nat} (ha : a < 2 ^ 31) : (Int32.ofNat a).toInt = (a : Int) := LawKit.toInt_of rfl ha
theorem lt_nat {a b : Nat} (ha : a < 2 ^ 31) (hb : b < 2 ^ 31) : Int32.ofNat a < Int32.ofNat b ↔ a < b := by
  rw [Int32.lt_iff_toInt_lt, toInt_nat ha, toInt_nat hb]; omega
theorem eq_nat {a b : Nat} (ha : a < 2 ^ 31) (hb : b < 2 ^ 31) : Int32.ofNat a = Int32.ofNat b ↔ a = b := by
  rw [← Int32.toInt_inj, toInt_nat ha, toInt_nat hb]; omega
theorem eq0_nat {a : Nat} (ha : a < 2 ^ 31) : Int32.ofNat a = 0 ↔ a = 0 := eq_nat (b := 0) ha (by decide)
theorem sub1_nat {a : Nat} (h0 : 0 < a) (ha : a < 2 ^ 31) : Int32.ofNat a - 1 = Int32.ofNat (a - 1) := by
  obtain ⟨b, rfl⟩ : ∃ b, a = b + 1 := ⟨a - 1, by omega⟩
  exact LawKit.dec_ofNat b
theorem add1_nat (a : Nat) : Int32.ofNat a + 1 = Int32.ofNat (a + 1) := (LawKit.inc_ofNat a).symm
/-- a nonnegative int is a number -/
theorem nat_of {x : Int32} (h : ¬ x < 0) : ∃ k : Nat, k < 2 ^ 31 ∧ x = Int32.ofNat k ∧ x.toInt = (k : Int) := by
  rw [Int32.lt_iff_toInt_lt] at h
  have e0 : (0 : Int32).toInt = 0 := rfl
  have hi := Int32.toInt_lt x
  refine ⟨x.toInt.toNat, by omega, ?_, by omega⟩
  rw [← Int32.toInt_inj, toInt_nat (by omega)]; omega
theorem and_nat (x m : Int32) {k : Nat} (hm : m = Int32.ofNat k) (hk : k < 2 ^ 31) : ∃ j : Nat, j ≤ k ∧ x &&& m = Int32.ofNat j := by
  subst hm
  refine ⟨(x &&& Int32.ofNat k).toBitVec.toNat, ?_, ?_⟩
  · simp only [Int32.toBitVec_and, BitVec.toNat_and]
    have : (Int32.ofNat k).toBitVec.toNat = k := by show (BitVec.ofNat 32 k).toNat = k; rw [BitVec.toNat_ofNat]; omega
    rw [this]; exact Nat.and_le_right
  · apply Int32.toBitVec_inj.mp
    show _ = BitVec.ofNat 32 _
    rw [BitVec.ofNat_toNat]; simp
theorem rem_nat {x : Int32} {q j : Nat} (hx : x = Int32.ofNat j) (hj : j < 2 ^ 31) (hq : q < 2 ^ 31) (h0 : 0 < q) : x % Int32.ofNat q = Int32.ofNat (j % q) := by
  subst hx
  have := Nat.mod_lt j h0
  rw [← Int32.toInt_inj, Int32.toInt_mod, toInt_nat hj, toInt_nat hq, toInt_nat (by omega), Int.tmod_eq_emod_of_nonneg (by omega)]
  omega
/-- (x & 0x7fffffff) % q -/
theorem mask_rem (x : Int32) {q : Nat} {y : Int32} (hy : y = Int32.ofNat q) (hq : q < 2 ^ 31) (h0 : 0 < q) : ∃ k : Nat, k < q ∧ (x &&& (2147483647 : Int32)) % y = Int32.ofNat k := by
  subst hy
  obtain ⟨j, hj, e⟩ := and_nat x (2147483647 : Int32) (k := 2147483647) rfl (by decide)
  exact ⟨j % q, Nat.mod_lt _ h0, rem_nat e (by omega) hq h0⟩
theorem not_lt_iff {x y : Int32} : ¬ x < y ↔ y ≤ x := Int32.not_lt
end Num
section Addrs
theorem ne_new {x y : Addr} {h : Heap} (l : x < h.size) (g : y = h.size) : x ≠ y := fun e => by subst e; rw [g] at l; exact Nat.lt_irrefl _ l
theorem nin1 {x y : Addr} {h : Heap} (l : x < h.size) (g : y = h.size) : x ∉ [y] := fun q => ne_new l g (List.mem_singleton.mp q)
theorem all1 {P : Addr → Prop} {y : Addr} (q : P y) : ∀ x ∈ [y], P x := fun x z => (List.mem_singleton.mp z) ▸ q
end Addrs
section Chars
theorem ch_cases {x : Int32} (h : ¬ x < 0 ∧ ¬ (255 : Int32) < x) : ∃ k : Nat, k < 256 ∧ x = Int32.ofNat k := by
  obtain ⟨k, hk, e, ei⟩ := nat_of h.1
  refine ⟨k, ?_, e⟩
  have h2 := h.2
  rw [Int32.lt_iff_toInt_lt, ei] at h2
  have : (255 : Int32).toInt = 255 := rfl
  omega
theorem nar_ch {x : Int32} (h : ¬ x < 0 ∧ ¬ (255 : Int32) < x) : nar .char x = x := by
  obtain ⟨k, hk, rfl⟩ := ch_cases h
  exact (by decide +kernel : ∀ k : Fin 256, nar .char (Int32.ofNat k.val) = Int32.ofNat k.val) ⟨k, hk⟩
theorem narrow_ch {x : Int32} (h : ¬ x < 0 ∧ ¬ (255 : Int32) < x) : narrow .char (.int x) = .int x := by
  show Value.int (nar .char x) = _
  rw [nar_ch h]
theorem i2c_ch {x : Int32} (h : ¬ x < 0 ∧ ¬ (255 : Int32) < x) : x.toUInt32.toUInt16.toUInt32.toInt32 = x := nar_ch h
end Chars
section More
variable {nw : Prop} {EL : List (String × Nat)} {n0 : Nat} {Z : State} {a0 : Array Value} {own nm : String} {cd : ByteArray} {ml : Nat} {ret : Option FieldType} {p : Program} {l : Launch} {e : Env} {R : Room} {s : State} {m : MethodId} {args : Array Value} {below : List Frame} {meth : Method} {c : Code} {T : State} {h : Heap} {xs : List Addr} {cells slots : Nat}
variable {F : State → Prop} {pc n : Nat} {L : Array Slot} {r : List Value}
/-- checkcast of an object of the class -/
theorem Go.cast (W : Wk nw EL n0 Z a0 own nm cd ml ret p l e R s m args below meth c T h xs cells slots) {K : String} {ix : Nat} {a : Addr} (d : Dec cd pc (.checkcast ix) 3 n) (w : (Cond.classLink own ix K).before a0 Z = true) (I : Ins Z h a K true)
    (k : ∀ T', Wk nw EL n0 Z a0 own nm cd ml ret p l e R s m args below meth c T' h xs cells slots → Go p e below F T' (mkF m n L (.ref a :: r))) : Go p e below F T (mkF m pc L (.ref a :: r)) := by
  obtain ⟨vm0, k0, locs, X, eT, hS, hk, hn, hZ, ho, hE, hC, hF, hO, hxs, hx, hby, rest⟩ := W
  obtain ⟨d, rfl⟩ := d
  obtain ⟨T', X', e', st⟩ := castY X hx hZ ho w eT I (g := mkF m pc L (.ref a :: r)) rfl rfl (hb hby d)
  exact Go.st st (k T' ⟨vm0, k0, locs, X', e', hS, hk, hn, hZ, ho, hE, hC, hF, hO, hxs, hx, hby, rest⟩)
/-- instanceof: yes -/
theorem Go.instY (W : Wk nw EL n0 Z a0 own nm cd ml ret p l e R s m args below meth c T h xs cells slots) {K : String} {ix : Nat} {a : Addr} (d : Dec cd pc (.instanceof ix) 3 n) (w : (Cond.classLink own ix K).before a0 Z = true) (I : Ins Z h a K true)
    (k : ∀ T', Wk nw EL n0 Z a0 own nm cd ml ret p l e R s m args below meth c T' h xs cells slots → Go p e below F T' (mkF m n L (.int 1 :: r))) : Go p e below F T (mkF m pc L (.ref a :: r)) := by
  obtain ⟨vm0, k0, locs, X, eT, hS, hk, hn, hZ, ho, hE, hC, hF, hO, hxs, hx, hby, rest⟩ := W
  obtain ⟨d, rfl⟩ := d
  obtain ⟨T', X', e', st⟩ := RoadKit.instY X hx hZ ho w eT I (g := mkF m pc L (.ref a :: r)) rfl rfl (hb hby d)
  exact Go.st st (k T' ⟨vm0, k0, locs, X', e', hS, hk, hn, hZ, ho, hE, hC, hF, hO, hxs, hx, hby, rest⟩)
/-- if_acmpne of two references -/
theorem Go.acne (C : Cx p below m c cd T) {x y : Value} {o : Int} {q : Nat} (d : Dec cd pc (.if_acmp .ne o) 3 n) (hx : x.isRef = true) (hy : y.isRef = true) (ho : 0 ≤ (pc : Int) + o) (hp : ((pc : Int) + o).toNat = q)
    (k1 : ¬ x = y → Go p e below F T (mkF m q L r)) (k2 : x = y → Go p e below F T (mkF m n L r)) : Go p e below F T (mkF m pc L (y :: x :: r)) := by
  obtain ⟨d, rfl⟩ := d
  by_cases hc : x = y
  · obtain ⟨t, st, f⟩ := k2 hc; exact ⟨t, XT.acmpNo C.1 C.2.1 rfl (hb C.2.2 d) rfl hx hy (by simp [XT.acmp, hc]) st, f⟩
  · obtain ⟨t, st, f⟩ := k1 hc; exact ⟨t, XT.acmpYes C.1 C.2.1 rfl (pc0 := pc) rfl (hb C.2.2 d) rfl hx hy (by simp [XT.acmp, hc]) ho hp st, f⟩
theorem Go.aceq (C : Cx p below m c cd T) {x y : Value} {o : Int} {q : Nat} (d : Dec cd pc (.if_acmp .eq o) 3 n) (hx : x.isRef = true) (hy : y.isRef = true) (ho : 0 ≤ (pc : Int) + o) (hp : ((pc : Int) + o).toNat = q)
    (k1 : x = y → Go p e below F T (mkF m q L r)) (k2 : ¬ x = y → Go p e below F T (mkF m n L r)) : Go p e below F T (mkF m pc L (y :: x :: r)) := by
  obtain ⟨d, rfl⟩ := d
  by_cases hc : x = y
  · obtain ⟨t, st, f⟩ := k1 hc; exact ⟨t, XT.acmpYes C.1 C.2.1 rfl (pc0 := pc) rfl (hb C.2.2 d) rfl hx hy (by simp [XT.acmp, hc]) ho hp st, f⟩
  · obtain ⟨t, st, f⟩ := k2 hc; exact ⟨t, XT.acmpNo C.1 C.2.1 rfl (hb C.2.2 d) rfl hx hy (by simp [XT.acmp, hc]) st, f⟩
/-- an enum constant: the static, its class, its ordinal -/
theorem ord_of {C f d K : String} {k : Int32} (hx : (Cond.exactly (Term.static C f d) K).value args Z none Z [] = some true) (ho : (Cond.eq (Term.field (Term.static C f d) "java/lang/Enum" "ordinal" "I") (Term.int k)).value args Z none Z [] = some true)
    (h1 : (Cond.initialized C).before args Z = true) (h2 : (Cond.laysStatic C f d).before args Z = true) : ∃ a, Sta Z Z.heap C f d (.ref a) ∧ Exa Z Z.heap a K ∧ Fld Z Z.heap a "java/lang/Enum" "ordinal" "I" (.int k) := by
  obtain ⟨a, ea⟩ := exa_v hx
  obtain ⟨x, y, hx1, hy1, -⟩ := cmp_v (Or.inl ho)
  have hy2 : (Term.int k).eval args Z none [] Z = some (.int k) := rfl
  rw [hy2] at hy1; cases hy1
  have q : Z.fieldOf? a "java/lang/Enum" "ordinal" "I" = some x := (fld_at ea).symm.trans hx1
  have : x = .int k := by
    cases x with
    | int i => rw [gotT (Cond.eq_ints hx1 hy2) ho]
    | _ => simp [Cond.value, hx1, hy2] at ho
  subst this
  exact ⟨a, Sta.start ea (Or.inr ⟨h1, h2⟩), Exa.start ea hx, Fld.start q⟩
theorem ref_cat {v : Value} (h : v = .null ∨ ∃ a, v = .ref a) : v.isRef = true ∧ v.category = 1 := by rcases h with rfl | ⟨a, rfl⟩ <;> exact ⟨rfl, rfl⟩
end More
section Inst
variable {nw : Prop} {EL : List (String × Nat)} {n0 : Nat} {Z : State} {a0 : Array Value} {own nm : String} {cd : ByteArray} {ml : Nat} {ret : Option FieldType} {p : Program} {l : Launch} {e : Env} {R : Room} {s : State} {m : MethodId} {args : Array Value} {below : List Frame} {meth : Method} {c : Code} {T : State} {h : Heap} {xs : List Addr} {cells slots : Nat}
variable {F : State → Prop} {pc n : Nat} {L : Array Slot} {r : List Value}
/-- a class right beneath the root is no subclass of another one -/
theorem no_sub {C O K : String} {kk : Nat} (w1 : (Cond.superclass C O).before a0 Z = true) (w2 : (Cond.noSuperclass O).before a0 Z = true) (wk : (Cond.instantiable K kk).before a0 Z = true) (h1 : C ≠ K) (h2 : O ≠ K) : ∃ c t, Z.vm.findClass C = some c ∧ Z.vm.findClass K = some t ∧ Z.vm.assignable c t = false := by
  obtain ⟨o, ko, o1, o2, o3, -, -⟩ := Cond.noSuperclass_spec w2
  obtain ⟨c, c0⟩ := found_sup w1
  obtain ⟨p, k, kp, p1, p2, p3, p4, p5, -, p7⟩ := Cond.superclass_spec c0 w1
  cases o1.symm.trans p1
  obtain ⟨t, kt, t1, t2, t3, t4, -⟩ := Cond.instantiable_spec wk
  have n1 := ids_ne c0 t1 h1
  have n2 := ids_ne o1 t1 h2
  have t5 : kt.isInterface = false := by cases q : kt.isInterface <;> simp_all
  have sub : ∀ fuel, Z.vm.isSubclassAux fuel c t = false := fun fuel => by
    rcases fuel with _ | _ | f
    · rfl
    · simp [Vm.isSubclassAux, n1, p2, p4]
    · simp [Vm.isSubclassAux, n1, n2, p2, p4, o2, o3]
  refine ⟨c, t, c0, t1, ?_⟩
  show Z.vm.assignableAux (255 + 1) c t = false
  simp [Vm.assignableAux, n1, p2, t2, p5, t3, t5, Vm.isSubclass, sub]
theorem Go.instN (W : Wk nw EL n0 Z a0 own nm cd ml ret p l e R s m args below meth c T h xs cells slots) {K C : String} {ix : Nat} {a : Addr} (d : Dec cd pc (.instanceof ix) 3 n) (w : (Cond.classLink own ix K).before a0 Z = true) (E : Exa Z h a C) (I : ∃ c t, Z.vm.findClass C = some c ∧ Z.vm.findClass K = some t ∧ Z.vm.assignable c t = false)
    (k : ∀ T', Wk nw EL n0 Z a0 own nm cd ml ret p l e R s m args below meth c T' h xs cells slots → Go p e below F T' (mkF m n L (.int 0 :: r))) : Go p e below F T (mkF m pc L (.ref a :: r)) := by
  obtain ⟨vm0, k0, locs, X, eT, hS, hk, hn, hZ, ho, hE, hC, hF, hO, hxs, hx, hby, rest⟩ := W
  obtain ⟨d, rfl⟩ := d
  obtain ⟨T', X', e', st⟩ := RoadKit.instNo X hx hZ ho w eT E I (g := mkF m pc L (.ref a :: r)) rfl rfl (hb hby d)
  exact Go.st st (k T' ⟨vm0, k0, locs, X', e', hS, hk, hn, hZ, ho, hE, hC, hF, hO, hxs, hx, hby, rest⟩)
theorem Go.inst0 (W : Wk nw EL n0 Z a0 own nm cd ml ret p l e R s m args below meth c T h xs cells slots) {ix : Nat} (d : Dec cd pc (.instanceof ix) 3 n)
    (k : Go p e below F T (mkF m n L (.int 0 :: r))) : Go p e below F T (mkF m pc L (.null :: r)) := by
  obtain ⟨vm0, k0, locs, X, eT, hS, hk, hn, hZ, ho, hE, hC, hF, hO, hxs, hx, hby, rest⟩ := W
  obtain ⟨d, rfl⟩ := d
  exact Go.st (fun t st => X.instanceofNull hx (g := mkF m pc L (.null :: r)) rfl rfl (hb hby d) t st) k
end Inst
section Objs
variable {nw : Prop} {EL : List (String × Nat)} {n0 : Nat} {Z : State} {a0 : Array Value} {own nm : String} {cd : ByteArray} {ml : Nat} {ret : Option FieldType} {p : Program} {l : Launch} {e : Env} {R : Room} {s : State} {m : MethodId} {args : Array Value} {below : List Frame} {meth : Method} {c : Code} {T : State} {h h' : Heap} {xs : List Addr} {cells slots : Nat}
variable {F : State → Prop} {pc n : Nat} {L : Array Slot} {r : List Value}
/-- an empty array of references -/
def OArr (Z : State) (h : Heap) (a : Addr) (C ad : String) : Prop := ∃ cl : Cell, Arr Z h a cl (.object C) ∧ Exa Z h a ad ∧ cl.slots.size = 0
theorem OArr.exa {a : Addr} {C ad : String} (O : OArr Z h a C ad) : Exa Z h a ad := by obtain ⟨_, -, E, -⟩ := O; exact E
theorem OArr.lt {a : Addr} {C ad : String} (O : OArr Z h a C ad) : a < h.size := O.exa.lt
theorem OArr.ext {a : Addr} {C ad : String} (O : OArr Z h a C ad) (E : Ext h h') : OArr Z h' a C ad := by obtain ⟨cl, A, X, S⟩ := O; exact ⟨cl, A.ext E, X.ext E, S⟩
theorem OArr.keep {a : Addr} {C ad : String} {ws : List Addr} (O : OArr Z h a C ad) (K : Keep h h' ws) (q : a ∉ ws) : OArr Z h' a C ad := by obtain ⟨cl, A, X, S⟩ := O; exact ⟨cl, ⟨K.2.1 a cl A.1 q, A.2⟩, X.keep K, S⟩
theorem Go.newobjs0 (W : Wk nw EL n0 Z a0 own nm cd ml ret p l e R s m args below meth c T h xs cells slots) {C ad : String} {ix cells' : Nat} (d : Dec cd pc (.anewarray ix) 3 n) (w1 : (Cond.classLink own ix C).before a0 Z = true) (w2 : (Cond.arrayOver (.object C)).before a0 Z = true)
    (hc : cells + 1 = cells') (hc' : cells' ≤ R.cells) (hs' : slots + 0 ≤ R.slots) (had : "[" ++ (FieldType.object C).toString = ad)
    (k : ∀ T' h' a, a = h.size → Wk nw EL n0 Z a0 own nm cd ml ret p l e R s m args below meth c T' h' (a :: xs) cells' slots → Ext h h' → OArr Z h' a C ad → Go p e below F T' (mkF m n L (.ref a :: r))) : Go p e below F T (mkF m pc L (.int 0 :: r)) := by
  obtain ⟨vm0, k0, locs, X, eT, hS, hk, hn, hZ, ho, hE, hC, hF, hO, hxs, hx, hby, rest⟩ := W
  obtain ⟨d, rfl⟩ := d
  subst hc
  obtain ⟨T', h', cA, X', e', E, A, A2, -, st⟩ := newRE X hx hZ ho w1 w2 eT (g := mkF m pc L (.int 0 :: r)) rfl (hb hby d) rfl (by decide) (cap := 0) (by decide) (by decide) hc' hs' had
  have C1 := CHr.ext E hC.1
  refine Go.st st (k T' h' h.size rfl ⟨vm0, k0, locs, X', e', hS, Nat.le_trans hk E.1, hn, hZ, ho, hE, hC.trans C1, hF, hO.ext E, fun x hm => ?_, hx, hby, rest⟩ E ⟨_, A, A2, by rw [sz_new]; rfl⟩)
  rcases List.mem_cons.mp hm with rfl | hm
  · exact ⟨old_le hO, A.lt, Safe.ext E hC.1 (Safe.new (Nat.le_refl _))⟩
  · exact ⟨(hxs x hm).1, Nat.lt_of_lt_of_le (hxs x hm).2.1 E.1, C1.safe (hxs x hm).2.1 (hxs x hm).2.2⟩
theorem Go.clone0 (W : Wk nw EL n0 Z a0 own nm cd ml ret p l e R s m args below meth c T h xs cells slots) {C ad : String} {ix wt cells' : Nat} {b : Addr} (d : Dec cd pc (.invokevirtual ix) 3 n)
    (w1 : (Cond.methodLink own ix ⟨ad, "clone", "()Ljava/lang/Object;"⟩).before a0 Z = true) (w2 : (Cond.sameMethod ad "java/lang/Object" "clone" "()Ljava/lang/Object;").before a0 Z = true) (w3 : (Cond.native ⟨"java/lang/Object", "clone", "()Ljava/lang/Object;"⟩).before a0 Z = true)
    (w4 : (Cond.instanceMethod ⟨"java/lang/Object", "clone", "()Ljava/lang/Object;"⟩).before a0 Z = true) (w5 : (Cond.selects ad ⟨ad, "clone", "()Ljava/lang/Object;"⟩ ⟨"java/lang/Object", "clone", "()Ljava/lang/Object;"⟩).before a0 Z = true) (w6 : (Cond.castable ad "java/lang/Cloneable").before a0 Z = true)
    (O : OArr Z h b C ad) (hsz : L.size = ml) (hf : 1 ≤ R.frames) (hw : (r.map fun v => v.category).sum ≤ wt) (hl : wt + 14 ≤ R.locals) (hc : cells + 1 = cells') (hc' : cells' ≤ R.cells) (hs' : slots + 0 ≤ R.slots)
    (k : ∀ T' h' a, a = h.size → Wk nw EL n0 Z a0 own nm cd ml ret p l e R s m args below meth c T' h' (a :: xs) cells' slots → Ext h h' → OArr Z h' a C ad → Go p e below F T' (mkF m n L (.ref a :: r))) : Go p e below F T (mkF m pc L (.ref b :: r)) := by
  obtain ⟨vm0, k0, locs, X, eT, hS, hk, hn, hZ, ho, hE, hC, hF, hO, hxs, hx, hby, hml, rest⟩ := W
  obtain ⟨d, rfl⟩ := d
  subst hc
  obtain ⟨cl, A, A2, S⟩ := O
  obtain ⟨T', h', X', e', E, B, B2, st⟩ := cloneA X hx hZ ho w1 w2 w3 w4 w5 w6 eT A A2 (fun i v hv => by have := (Array.getElem?_eq_some_iff.mp hv).1; omega) (g := mkF m pc L (.ref b :: r)) rfl (hsz.trans hml.symm) rfl (hb hby d) hf (W := wt) (cap := 0) (by show 2 * 0 + _ ≤ _; omega) hl (by omega) hc' hs'
  have C1 := CHr.ext E hC.1
  refine Go.st st (k T' h' h.size rfl ⟨vm0, k0, locs, X', e', hS, Nat.le_trans hk E.1, hn, hZ, ho, hE, hC.trans C1, hF, hO.ext E, fun x hm => ?_, hx, hby, hml, rest⟩ E ⟨_, B, B2, by simpa [cloneOf] using S⟩)
  rcases List.mem_cons.mp hm with rfl | hm
  · exact ⟨old_le hO, B.lt, Safe.ext E hC.1 (Safe.new (Nat.le_refl _))⟩
  · exact ⟨(hxs x hm).1, Nat.lt_of_lt_of_le (hxs x hm).2.1 E.1, C1.safe (hxs x hm).2.1 (hxs x hm).2.2⟩
theorem Go.alen0 (W : Wk nw EL n0 Z a0 own nm cd ml ret p l e R s m args below meth c T h xs cells slots) {a : Addr} {C ad : String} (d : Dec cd pc .arraylength 1 n) (O : OArr Z h a C ad)
    (k : Go p e below F T (mkF m n L (.int 0 :: r))) : Go p e below F T (mkF m pc L (.ref a :: r)) := by
  obtain ⟨vm0, k0, locs, X, eT, hS, hk, hn, hZ, ho, hE, hC, hF, hO, hxs, hx, hby, rest⟩ := W
  obtain ⟨d, rfl⟩ := d
  obtain ⟨cl, A, A2, S⟩ := O
  exact Go.st (fun t st => X.arraylength hx (by rw [eT]; exact A.1) (State.isArrayOf_alike hZ.alike A.2.1) (g := mkF m pc L (.ref a :: r)) rfl rfl (hb hby d) t (by rw [S]; exact st)) k
end Objs
section More2
variable {nw : Prop} {EL : List (String × Nat)} {n0 : Nat} {Z : State} {a0 : Array Value} {own nm : String} {cd : ByteArray} {ml : Nat} {ret : Option FieldType} {p : Program} {l : Launch} {e : Env} {R : Room} {s : State} {m : MethodId} {args : Array Value} {below : List Frame} {meth : Method} {c : Code} {T : State} {h h' : Heap} {xs : List Addr} {cells slots : Nat}
variable {F : State → Prop} {pc n : Nat} {L : Array Slot} {r : List Value}
theorem Go.ldcF (W : Wk nw EL n0 Z a0 own nm cd ml ret p l e R s m args below meth c T h xs cells slots) {ix : Nat} {v : UInt32} (d : Dec cd pc (.ldc ix) 2 n) (w : (Cond.constantFloat own ix v).before a0 Z = true)
    (k : Go p e below F T (mkF m n L (.float v :: r))) : Go p e below F T (mkF m pc L r) := by
  obtain ⟨vm0, k0, locs, X, eT, hS, hk, hn, hZ, ho, hE, hC, hF, hO, hxs, hx, hby, rest⟩ := W
  obtain ⟨d, rfl⟩ := d
  exact Go.st (fun t st => X.ldcFloatC hx ho (mv hZ w) (g := mkF m pc L r) rfl (hb hby d) t st) k
/-- invokevirtual of an inherited method, nothing returned -/
theorem Go.invvU0 (W : Wk nw EL n0 Z a0 own nm cd ml ret p l e R s m args below meth c T h xs cells slots) {x y : MethodName} {C owner : String} {ix wt kc ks cells' slots' : Nat} {argsL rest st0 : List Value} {b : Addr} {Q : Heap → Prop} {ps : List FieldType} {pr : Option FieldType} (hK : Call nw EL n0 Z xs l R p e below s args y 3 wt (.ref b :: argsL).toArray h kc ks (RN Q)) (d : Dec cd pc (.invokevirtual ix) 3 n)
    (w1 : (Cond.methodLink own ix x).before a0 Z = true) (w2 : (Cond.sameMethod x.cls owner x.name x.desc).before a0 Z = true) (w3 : (Cond.declares ⟨owner, x.name, x.desc⟩).before a0 Z = true) (how : owner ≠ "java/lang/invoke/MethodHandle" ∧ owner ≠ "java/lang/invoke/VarHandle") (w4 : (Cond.selects C x y).before a0 Z = true) (w5 : (Cond.instanceMethod y).before a0 Z = true) (E : Exa Z h b C)
    (hpd : parseMethodDescriptor x.desc = some ⟨ps, pr⟩) (hlen : argsL.length = ps.length) (hsz : L.size = ml) (hst : st0 = argsL.reverse ++ .ref b :: rest) (hw : (rest.map fun v => v.category).sum ≤ wt) (hc : cells + kc = cells') (hs : slots + ks = slots') (hc' : cells' ≤ R.cells) (hs' : slots' ≤ R.slots)
    (k : ∀ T' h', Wk nw EL n0 Z a0 own nm cd ml ret p l e R s m args below meth c T' h' xs cells' slots' → h.size ≤ h'.size → Q h' → Go p e below F T' (mkF m n L rest)) : Go p e below F T (mkF m pc L st0) := by
  obtain ⟨vm0, k0, locs, X, eT, hS, hk, hn, hZ, ho, hE, hC, hF, hO, hxs, hx, hby, hml, rst⟩ := W
  obtain ⟨d, rfl⟩ := d
  subst hc hs hst
  obtain ⟨cq, kq, qa, qb, qc⟩ := isOf (s := s.setVm vm0) hZ eT E
  obtain ⟨v, vm₁, B, hW1, X', hS2, hg, ⟨Lc, hq, r1, r2, r3, hF', hO', hC', hn'⟩, st⟩ := X.virtualBackUpS hx ho (mv hZ w1) (mv hZ w2) (mv hZ w3) how (mv hZ w4) (mv hZ w5) (hK vm0 hZ hC.1 hO hxs) qa qc (g := mkF m pc L (argsL.reverse ++ .ref b :: rest)) rfl (hsz.trans hml.symm) (Steps.refl _) (argsL := argsL) (rest := rest) (lenOf hpd hlen) rfl (by show 2 * 0 + _ ≤ _; omega) (hb hby d) (fun _ _ => ⟨rfl, eT, hc', hs'⟩)
  obtain ⟨rfl, hq⟩ := hq
  exact Go.run st (k B.U B.U.heap (Wk.after X eT hS hk hn hZ ho hE hC hF hO hxs ⟨hx, hby, hml, rst⟩ X' hS2 hg r1 r2 r3 hF' hO' hC' hn') (eT ▸ hg) hq)
/-- a static that holds a reference -/
theorem sta_ref {C f d : String} {t : FieldType} (hf : Fit Z) (h1 : (Cond.initialized C).before args Z = true) (h2 : (Cond.laysStatic C f d).before args Z = true) (ht : parseFieldDescriptor d = some t) (hr : t.isReference = true) : ∃ v : Value, Sta Z Z.heap C f d v ∧ (v = .null ∨ ∃ r, v = .ref r) := by
  obtain ⟨v, ev, fv⟩ := static_fit hf h2 ht
  exact ⟨v, Sta.start ev (Or.inr ⟨h1, h2⟩), ref_cases (fit_R fv hr)⟩
end More2
section Jdk
variable {nw : Prop} {EL : List (String × Nat)} {n0 : Nat} {Z : State} {a0 : Array Value} {own nm : String} {cd : ByteArray} {ml : Nat} {ret : Option FieldType} {p : Program} {l : Launch} {e : Env} {R : Room} {s : State} {m : MethodId} {args : Array Value} {below : List Frame} {meth : Method} {c : Code} {T : State} {h h' : Heap} {xs : List Addr} {cells slots : Nat}
variable {F : State → Prop} {pc n : Nat} {L : Array Slot} {r : List Value}
/-- the low byte of a char, as a byte[] holds it -/
def by8 (x : Int32) : Int32 := x.toInt8.toInt32
/-- a byte[] that holds chars of 0 to 255 -/
def BArr (Z : State) (h : Heap) (a : Addr) (ka : ClassId) (cs : List Int32) : Prop := Arv Z h a ka .byte (Int32.ofNat cs.length) ((cs.map fun c => c.toInt8.toInt32).map Value.int) (.int 0)
/-- baload -/
theorem Go.baload (W : Wk nw EL n0 Z a0 own nm cd ml ret p l e R s m args below meth c T h xs cells slots) {a : Addr} {ka : ClassId} {cs : List Int32} {j v : Int32} (i : Nat) (d : Dec cd pc .baload 1 n) (A : BArr Z h a ka cs) (hj : j = Int32.ofNat i) (hi : i < cs.length) (hlen : cs.length < 2 ^ 31) (hv : by8 (cs.getD i 0) = v)
    (k : Go p e below F T (mkF m n L (.int v :: r))) : Go p e below F T (mkF m pc L (.int j :: .ref a :: r)) := by
  obtain ⟨vm0, k0, locs, X, eT, hS, hk, hn, hZ, ho, hE, hC, hF, hO, hxs, hx, hby, rest⟩ := W
  obtain ⟨d, rfl⟩ := d
  subst hj
  obtain ⟨cl, A1, q1, S1, M1, H1, U1⟩ := id A
  have hin := inb_of S1 (in_of rfl hi hlen)
  have hat := Has.at (v := .int v) H1 hin (by rw [clamp_nat (by omega)]; unfold by8 at hv; simp only [List.getD_eq_getElem?_getD, List.getElem?_map] at hv ⊢; rw [List.getElem?_eq_getElem hi] at hv ⊢; simpa using hv)
  exact Go.st (fun t st => X.baloadBytes hx (by rw [eT]; exact A1.1) (State.isArrayOf_alike hZ.alike A1.2.1) A1.2.2 hin hat (g := mkF m pc L (.int (Int32.ofNat i) :: .ref a :: r)) rfl rfl (hb hby d) t st) k
theorem by8_inj {x y : Int32} (hx : ¬ x < 0 ∧ ¬ (255 : Int32) < x) (hy : ¬ y < 0 ∧ ¬ (255 : Int32) < y) : by8 x = by8 y ↔ x = y := by
  have t : ∀ k : Fin 256, by8 (Int32.ofNat k.val) &&& 255 = Int32.ofNat k.val := by decide +kernel
  constructor
  · intro q
    obtain ⟨i, hi, rfl⟩ := ch_cases hx
    obtain ⟨j, hj, rfl⟩ := ch_cases hy
    rw [← t ⟨i, hi⟩, ← t ⟨j, hj⟩]
    show by8 (Int32.ofNat i) &&& 255 = by8 (Int32.ofNat j) &&& 255
    rw [q]
  · rintro rfl; rfl
theorem getD_ch {cs : List Int32} (h : ∀ c ∈ cs, ¬ c < 0 ∧ ¬ (255 : Int32) < c) {i : Nat} (hi : i < cs.length) : ¬ cs.getD i 0 < 0 ∧ ¬ (255 : Int32) < cs.getD i 0 := by
  rw [List.getD_eq_getElem?_getD, List.getElem?_eq_getElem hi]
  exact h _ (List.getElem_mem _)
/-- a boolean answer -/
def Bo (P : Prop) (z : Int32) : Prop := (z = 1 ∧ P) ∨ (z = 0 ∧ ¬ P)
theorem Bo.yes {P : Prop} {z : Int32} (B : Bo P z) (q : ¬ z = 0) : P := B.elim (fun u => u.2) (fun u => absurd u.1 q)
theorem Bo.no {P : Prop} {z : Int32} (B : Bo P z) (q : z = 0) : ¬ P := B.elim (fun u => absurd (u.1.symm.trans q) (by decide)) (fun u => u.2)
theorem Bo.tt {P : Prop} (q : P) : Bo P 1 := Or.inl ⟨rfl, q⟩
theorem Bo.ff {P : Prop} (q : ¬ P) : Bo P 0 := Or.inr ⟨rfl, q⟩
theorem Bo.one {P : Prop} {z : Int32} (B : Bo P z) (q : P) : z = 1 := B.elim (fun u => u.1) (fun u => absurd q u.2)
theorem Bo.zero {P : Prop} {z : Int32} (B : Bo P z) (q : ¬ P) : z = 0 := B.elim (fun u => absurd u.2 q) (fun u => u.1)
theorem Bo.iff {P Q : Prop} {z : Int32} (B : Bo P z) (q : P ↔ Q) : Bo Q z := B.elim (fun u => Or.inl ⟨u.1, q.mp u.2⟩) (fun u => Or.inr ⟨u.1, fun w => u.2 (q.mpr w)⟩)
theorem Bo.same {P : Prop} {z z' : Int32} (B : Bo P z) (B' : Bo P z') : z = z' := by
  rcases B with ⟨rfl, q⟩ | ⟨rfl, q⟩
  · exact (B'.one q).symm
  · exact (B'.zero q).symm
theorem Bo.nar {P : Prop} {z : Int32} (B : Bo P z) : narrow .boolean (.int z) = .int z := by
  rcases B with ⟨rfl, -⟩ | ⟨rfl, -⟩ <;> rfl
theorem add_nat (a b : Nat) : Int32.ofNat a + Int32.ofNat b = Int32.ofNat (a + b) := (Int32.ofNat_add a b).symm
theorem sub_int {a b : Nat} (ha : a < 2 ^ 31) (hb : b < 2 ^ 31) : (Int32.ofNat a - Int32.ofNat b).toInt = (a : Int) - b := by
  rw [Int32.toInt_sub, toInt_nat ha, toInt_nat hb]
  exact Int.bmod_eq_of_le (by omega) (by omega)
theorem sub_nat {a b : Nat} (ha : a < 2 ^ 31) (hb : b ≤ a) : Int32.ofNat a - Int32.ofNat b = Int32.ofNat (a - b) := by
  rw [← Int32.toInt_inj, sub_int ha (by omega), toInt_nat (by omega)]; omega
/-- ds stands in cs at k -/
def Sw (cs : List Int32) (k : Nat) (ds : List Int32) : Prop := k + ds.length ≤ cs.length ∧ ∀ i, i < ds.length → cs.getD (k + i) 0 = ds.getD i 0
theorem BArr.of_new {a : Addr} {ka : ClassId} {z : Int32} (A : Arv Z h a ka .byte z [] (.int 0)) {cs : List Int32} {k : Nat} (hc : cs = List.replicate k 0) (hz : z = Int32.ofNat k) : BArr Z h a ka cs := by
  subst hc hz
  unfold BArr
  rw [List.length_replicate, List.map_replicate, List.map_replicate]
  exact Arv.pad A (fun i => by simpa using pad_rep [] (.int 0) k i)
theorem BArr.lt {a : Addr} {ka : ClassId} {cs : List Int32} (A : BArr Z h a ka cs) : a < h.size := Arv.lt A
theorem BArr.ext {a : Addr} {ka : ClassId} {cs : List Int32} (A : BArr Z h a ka cs) (E : Ext h h') : BArr Z h' a ka cs := Arv.ext A E
theorem BArr.keep {a : Addr} {ka : ClassId} {cs : List Int32} {ws : List Addr} (A : BArr Z h a ka cs) (K : Keep h h' ws) (q : a ∉ ws) : BArr Z h' a ka cs := Arv.keep A K q
theorem by8_nar (x : Int32) : nar .byte (x.toInt8.toInt32) = by8 x := by simp [nar, by8]
/-- bastore into a byte[] of the walk's own -/
theorem Go.bastore (W : Wk nw EL n0 Z a0 own nm cd ml ret p l e R s m args below meth c T h xs cells slots) {a : Addr} {ka : ClassId} {cs : List Int32} {j x x' : Int32} (i : Nat) (d : Dec cd pc .bastore 1 n) (A : BArr Z h a ka cs) (ha : a ∈ xs) (hj : j = Int32.ofNat i) (hi : i < cs.length) (hlen : cs.length < 2 ^ 31) (hx' : nar .byte x = by8 x')
    (k : ∀ T' h', Wk nw EL n0 Z a0 own nm cd ml ret p l e R s m args below meth c T' h' xs cells slots → Keep h h' [a] → BArr Z h' a ka (cs.set i x') → Go p e below F T' (mkF m n L r)) : Go p e below F T (mkF m pc L (.int x :: .int j :: .ref a :: r)) := by
  obtain ⟨vm0, k0, locs, X, eT, hS, hk, hn, hZ, ho, hE, hC, hF, hO, hxs, hx, hby, rest⟩ := W
  obtain ⟨d, rfl⟩ := d
  subst hj
  obtain ⟨cl, A1, q1, S1, M1, H1, U1⟩ := id A
  have hin := inb_of S1 (in_of rfl hi hlen)
  obtain ⟨T', h', X', e', Wr', st⟩ := stB X hx hZ eT A1 hin (g := mkF m pc L (.int x :: .int (Int32.ofNat i) :: .ref a :: r)) rfl rfl (hb hby d)
  have q := hxs a ha
  have C1 := CHr.wr Wr' q.2.2 hC.1
  have sz : h'.size = h.size := Wr'.size
  have A2 : BArr Z h' a ka (cs.set i x') := by
    have B := Arv.set A1 q1 S1 M1 H1 U1 (fits_nar_byte x) Wr' i (clamp_nat (by omega)) (by simpa using hi)
    unfold BArr
    rw [List.length_set, List.map_set, List.map_set]
    rw [show x.toInt8.toInt32 = x'.toInt8.toInt32 from hx'] at B
    exact B
  exact Go.st st (k T' h' ⟨vm0, k0, _, X', e', hS, by rw [sz]; exact hk, hn, hZ, ho, hE, hC.trans C1, Fr.snoc X' hF q.1, hO.wr Wr' q.1, fun x hm => ⟨(hxs x hm).1, by rw [sz]; exact (hxs x hm).2.1, C1.safe (hxs x hm).2.1 (hxs x hm).2.2⟩, hx, hby, rest⟩ (Keep.of_wr Wr') A2)
theorem getD_take (cs : List Int32) (n i : Nat) : (cs.take n).getD i 0 = if i < n then cs.getD i 0 else 0 := by
  simp only [List.getD_eq_getElem?_getD, List.getElem?_take]
  split <;> rfl
theorem getD_set (cs : List Int32) (i j : Nat) (x : Int32) (hi : i < cs.length) : (cs.set i x).getD j 0 = if i = j then x else cs.getD j 0 := by
  simp only [List.getD_eq_getElem?_getD, List.getElem?_set]
  by_cases q : i = j
  · subst q; rw [if_pos rfl]; simp [hi]
  · rw [if_neg q]; simp [q]
theorem take_ch {cs : List Int32} (h : ∀ c ∈ cs, ¬ c < 0 ∧ ¬ (255 : Int32) < c) (n : Nat) : ∀ c ∈ cs.take n, ¬ c < 0 ∧ ¬ (255 : Int32) < c := fun c q => h c (List.mem_of_mem_take q)
end Jdk
section ObjArr
variable {nw : Prop} {EL : List (String × Nat)} {n0 : Nat} {Z : State} {a0 : Array Value} {own nm : String} {cd : ByteArray} {ml : Nat} {ret : Option FieldType} {p : Program} {l : Launch} {e : Env} {R : Room} {s : State} {m : MethodId} {args : Array Value} {below : List Frame} {meth : Method} {c : Code} {T : State} {h h' : Heap} {xs : List Addr} {cells slots : Nat}
variable {F : State → Prop} {pc n : Nat} {L : Array Slot} {r : List Value}
/-- an array of references, its elements -/
def OAr (Z : State) (h : Heap) (a : Addr) (C ad : String) (vs : List Value) : Prop := ∃ cl : Cell, Arr Z h a cl (.object C) ∧ Exa Z h a ad ∧ cl.slots = vs.toArray ∧ ∀ v ∈ vs, v.isRef = true
theorem OAr.exa {a : Addr} {C ad : String} {vs : List Value} (O : OAr Z h a C ad vs) : Exa Z h a ad := by obtain ⟨_, -, E, -⟩ := O; exact E
theorem OAr.lt {a : Addr} {C ad : String} {vs : List Value} (O : OAr Z h a C ad vs) : a < h.size := O.exa.lt
theorem OAr.ext {a : Addr} {C ad : String} {vs : List Value} (O : OAr Z h a C ad vs) (E : Ext h h') : OAr Z h' a C ad vs := by obtain ⟨cl, A, X, S⟩ := O; exact ⟨cl, A.ext E, X.ext E, S⟩
theorem OAr.keep {a : Addr} {C ad : String} {vs : List Value} {ws : List Addr} (O : OAr Z h a C ad vs) (K : Keep h h' ws) (q : a ∉ ws) : OAr Z h' a C ad vs := by obtain ⟨cl, A, X, S⟩ := O; exact ⟨cl, ⟨K.2.1 a cl A.1 q, A.2⟩, X.keep K, S⟩
theorem fits_ref {v : Value} {C : String} (h : v.isRef = true) : fits (.object C) v = true := by cases v <;> first | rfl | cases h
theorem Go.cloneN (W : Wk nw EL n0 Z a0 own nm cd ml ret p l e R s m args below meth c T h xs cells slots) {C ad : String} {vs : List Value} {ix wt cells' slots' : Nat} {b : Addr} (d : Dec cd pc (.invokevirtual ix) 3 n)
    (w1 : (Cond.methodLink own ix ⟨ad, "clone", "()Ljava/lang/Object;"⟩).before a0 Z = true) (w2 : (Cond.sameMethod ad "java/lang/Object" "clone" "()Ljava/lang/Object;").before a0 Z = true) (w3 : (Cond.native ⟨"java/lang/Object", "clone", "()Ljava/lang/Object;"⟩).before a0 Z = true)
    (w4 : (Cond.instanceMethod ⟨"java/lang/Object", "clone", "()Ljava/lang/Object;"⟩).before a0 Z = true) (w5 : (Cond.selects ad ⟨ad, "clone", "()Ljava/lang/Object;"⟩ ⟨"java/lang/Object", "clone", "()Ljava/lang/Object;"⟩).before a0 Z = true) (w6 : (Cond.castable ad "java/lang/Cloneable").before a0 Z = true)
    (O : OAr Z h b C ad vs) (hsz : L.size = ml) (hf : 1 ≤ R.frames) (hw : (r.map fun v => v.category).sum ≤ wt) (hl : wt + 14 ≤ R.locals) (hc : cells + 1 = cells') (hs : slots + vs.length = slots') (hc' : cells' ≤ R.cells) (hs' : slots' ≤ R.slots)
    (k : ∀ T' h' a, a = h.size → Wk nw EL n0 Z a0 own nm cd ml ret p l e R s m args below meth c T' h' (a :: xs) cells' slots' → Ext h h' → OAr Z h' a C ad vs → Go p e below F T' (mkF m n L (.ref a :: r))) : Go p e below F T (mkF m pc L (.ref b :: r)) := by
  obtain ⟨vm0, k0, locs, X, eT, hS, hk, hn, hZ, ho, hE, hC, hF, hO, hxs, hx, hby, hml, rest⟩ := W
  obtain ⟨d, rfl⟩ := d
  subst hc hs
  obtain ⟨cl, A, A2, S, hv⟩ := O
  obtain ⟨T', h', X', e', E, B, B2, st⟩ := cloneA X hx hZ ho w1 w2 w3 w4 w5 w6 eT A A2 (fitC_of A fun i hi v hq => fits_ref (hv v (by rw [S] at hq; exact List.mem_of_getElem? (by simpa using hq)))) (g := mkF m pc L (.ref b :: r)) rfl (hsz.trans hml.symm) rfl (hb hby d) hf (W := wt) (cap := vs.length) (by show 2 * 0 + _ ≤ _; omega) hl (by rw [S]; simp) hc' hs'
  have C1 := CHr.ext E hC.1
  refine Go.st st (k T' h' h.size rfl ⟨vm0, k0, locs, X', e', hS, Nat.le_trans hk E.1, hn, hZ, ho, hE, hC.trans C1, hF, hO.ext E, fun x hm => ?_, hx, hby, hml, rest⟩ E ⟨_, B, B2, S, hv⟩)
  rcases List.mem_cons.mp hm with rfl | hm
  · exact ⟨old_le hO, B.lt, Safe.ext E hC.1 (Safe.new (Nat.le_refl _))⟩
  · exact ⟨(hxs x hm).1, Nat.lt_of_lt_of_le (hxs x hm).2.1 E.1, C1.safe (hxs x hm).2.1 (hxs x hm).2.2⟩
theorem Go.alenN (W : Wk nw EL n0 Z a0 own nm cd ml ret p l e R s m args below meth c T h xs cells slots) {a : Addr} {C ad : String} {vs : List Value} {z : Int32} (d : Dec cd pc .arraylength 1 n) (O : OAr Z h a C ad vs) (hz : z = Int32.ofNat vs.length)
    (k : Go p e below F T (mkF m n L (.int z :: r))) : Go p e below F T (mkF m pc L (.ref a :: r)) := by
  obtain ⟨vm0, k0, locs, X, eT, hS, hk, hn, hZ, ho, hE, hC, hF, hO, hxs, hx, hby, rest⟩ := W
  obtain ⟨d, rfl⟩ := d
  obtain ⟨cl, A, A2, S, hv⟩ := O
  subst hz
  exact Go.st (fun t st => X.arraylength hx (by rw [eT]; exact A.1) (State.isArrayOf_alike hZ.alike A.2.1) (g := mkF m pc L (.ref a :: r)) rfl rfl (hb hby d) t (by rw [S]; simpa using st)) k
theorem Go.aaload (W : Wk nw EL n0 Z a0 own nm cd ml ret p l e R s m args below meth c T h xs cells slots) {a : Addr} {C ad : String} {vs : List Value} {j : Int32} {v : Value} (i : Nat) (d : Dec cd pc .aaload 1 n) (O : OAr Z h a C ad vs) (hj : j = Int32.ofNat i) (hi : i < 2 ^ 31) (hv : vs[i]? = some v)
    (k : Go p e below F T (mkF m n L (v :: r))) : Go p e below F T (mkF m pc L (.int j :: .ref a :: r)) := by
  obtain ⟨vm0, k0, locs, X, eT, hS, hk, hn, hZ, ho, hE, hC, hF, hO, hxs, hx, hby, rest⟩ := W
  obtain ⟨d, rfl⟩ := d
  subst hj
  obtain ⟨cl, A, A2, S, hr⟩ := O
  have hlt : i < vs.length := (List.getElem?_eq_some_iff.mp hv).1
  exact Go.st (fun t st => X.aaload hx (by rw [eT]; exact A.1) (State.isArrayOf_alike hZ.alike A.2.1) rfl A.2.2 (by rw [clamp_nat hi, S]; have := (in_of (i := i) (k := i + 1) rfl (Nat.lt_succ_self i)); rintro (q | q); rw [Int32.lt_iff_toInt_lt, toInt_nat hi] at q; have e0 : (0 : Int32).toInt = 0 := rfl; omega; simp at q; omega) (by rw [clamp_nat hi, S]; simpa using hv) (g := mkF m pc L (.int (Int32.ofNat i) :: .ref a :: r)) rfl rfl (hb hby d) t st) k
/-- a String of the start, read off the sheet's words -/
theorem eq_int_of {t : Term} {k : Int32} (h : (Cond.eq t (Term.int k)).value args Z none Z [] = some true) : t.eval args Z none [] Z = some (.int k) := by
  obtain ⟨x, y, hx1, hy1, -⟩ := cmp_v (Or.inl h)
  have hy2 : (Term.int k).eval args Z none [] Z = some (.int k) := rfl
  rw [hy2] at hy1; cases hy1
  cases x with
  | int i => rw [hx1, gotT (Cond.eq_ints hx1 hy2) h]
  | _ => simp [Cond.value, hx1, hy2] at h
theorem elem_slot {t : Term} {b : Addr} {cl : Cell} {i : Nat} {v : Value} (hb : t.eval args Z none [] Z = some (.ref b)) (hc : Z.heap[b]? = some cl) (hi : i < 2 ^ 31) (h : (Term.elem t (Term.int (Int32.ofNat i))).eval args Z none [] Z = some v) : cl.slots[i]? = some v := by
  have q := (elem_in h hb (Term.int_eval (Int32.ofNat i)) hc).2
  rwa [clamp_nat hi] at q
theorem str_of {t : Term} {cs : List Int32} {nn : Int32} (hx : (Cond.exactly t "java/lang/String").value args Z none Z [] = some true) (hc : (Cond.eq (Term.field t "java/lang/String" "coder" "B") (Term.int 0)).value args Z none Z [] = some true)
    (ha : (Cond.arrayOf (Term.field t "java/lang/String" "value" "[B") .byte).value args Z none Z [] = some true) (hl : (Cond.eq (Term.length (Term.field t "java/lang/String" "value" "[B")) (Term.int nn)).value args Z none Z [] = some true) (hnn : nn = Int32.ofNat cs.length) (h4 : cs.length ≤ 4000) (hp : ∀ c ∈ cs, ¬ c < 0 ∧ ¬ (255 : Int32) < c)
    (he : ∀ i, i < cs.length → (Cond.eq (Term.elem (Term.field t "java/lang/String" "value" "[B") (Term.int (Int32.ofNat i))) (Term.int (by8 (cs.getD i 0)))).value args Z none Z [] = some true) :
    ∃ r, t.eval args Z none [] Z = some (.ref r) ∧ Str Z Z.heap r cs := by
  subst hnn
  obtain ⟨r, er⟩ := exa_v hx
  have ec := eq_int_of hc
  rw [fld_at er] at ec
  obtain ⟨b, eb⟩ := arr_v ha
  obtain ⟨cl, A⟩ := Arr.start eb ha
  have el := eq_int_of hl
  obtain ⟨b', cl', eb', ec', hsz, ev⟩ := Jvm.Lib.length_spec el
  have eb2 := eb
  rw [fld_at er] at eb2
  cases eb.symm.trans eb'
  have hcl : cl' = cl := by
    have := A.1
    simp only [State.arrayAt?, Option.bind_eq_bind, Option.bind_eq_some_iff] at ec'
    obtain ⟨c1, h1, k1, -, h2⟩ := ec'
    rw [this] at h1
    cases h1
    split at h2
    · cases h2
    · split at h2
      · exact (Option.some.inj h2).symm
      · cases h2
  subst hcl
  have hsz2 : cl'.slots.size = cs.length := by
    have q := Value.int.inj ev
    have : (Int32.ofNat cs.length) = Int32.ofNat cl'.slots.size := q
    exact ((eq_nat (by omega) hsz).mp this).symm
  have hat : ∀ i, i < cs.length → cl'.slots[i]? = some (.int (by8 (cs.getD i 0))) := fun i hi => elem_slot eb A.1 (by omega) (eq_int_of (he i hi))
  have hgd : ∀ i, i < cs.length → ((cs.map fun c => c.toInt8.toInt32).map Value.int).getD i (.int 0) = .int (by8 (cs.getD i 0)) := fun i hi => by
    simp only [List.getD_eq_getElem?_getD, List.getElem?_map, by8]; rw [List.getElem?_eq_getElem hi]; rfl
  refine ⟨r, er, Exa.start er hx, Fld.start ec, ⟨b, cl'.cls, Fld.start eb2, cl', A, rfl, by rw [clamp_nat (by omega)]; exact hsz2, ?_, fun i hi => ?_, fun i hi => ?_⟩, hp, h4⟩
  · have := (in_of (i := 0) (k := cs.length + 1) rfl (by omega) (by omega))
    rw [Int32.lt_iff_toInt_lt, toInt_nat (by omega)]; show ¬ ((cs.length : Int) < 0); omega
  · rw [hgd i (by omega)]; exact hat i (by omega)
  · rw [hgd i (by omega)]; exact fits_nar_byte _
end ObjArr
section Hand
variable {nw : Prop} {EL : List (String × Nat)} {n0 : Nat} {Z : State} {a0 : Array Value} {own nm : String} {cd : ByteArray} {ml : Nat} {ret : Option FieldType} {p : Program} {l : Launch} {e : Env} {R : Room} {s : State} {m : MethodId} {args : Array Value} {below : List Frame} {meth : Method} {c : Code} {T : State} {h h' : Heap} {xs : List Addr} {cells slots : Nat}
variable {F : State → Prop} {pc n : Nat} {L : Array Slot} {r : List Value}
/-- a method with an exception table whose walk throws nothing and leaves the heap: narrow -/
theorem backH {y : MethodName} {bytes : ByteArray} {maxL len wt : Nat} {rt : Option FieldType} {hs : List (Nat × Nat × Nat × Nat)} {rm : Room} {as' : Array Value} {Q : Value → Prop} {L0 : Array Slot} (hpn : plainFor y = true) (hnw : nw) (hel : EL = []) (hO : Old Z n0 h) (ef : ∀ m, entryFrame m as' maxL = mkF m 0 L0 [])
    (hB : ∀ p e s m below meth c T, Wk nw EL n0 Z a0 y.cls y.name bytes maxL rt p l e rm s m as' below meth c T h [] 0 0 → Go p e below (Endp nw EL n0 Z below s rm.cells rm.slots (RV fun w h' => Q w ∧ h = h')) T (mkF m 0 L0 []))
    (hZ : Z.Warmed39 s.vm) (wc : (Cond.codeWith y bytes maxL rt hs).before a0 Z = true) (wz : (Cond.initialized y.cls).before a0 Z = true) (hf : rm.frames + 1 ≤ R.frames) (hl : wt + (maxL + 11) + rm.locals ≤ R.locals) :
    Back l R p e below s args y len wt (fun A a => a = as' ∧ A.U.heap = h ∧ A.cells + rm.cells ≤ R.cells ∧ A.slots + rm.slots ≤ R.slots)
      (fun A _ v B => ∃ Lc, ((∃ w, v = some w ∧ Q w) ∧ B.U.heap = h ∧ Fr n0 Lc) ∧ B.locs = A.locs ++ Lc ∧ B.cells = A.cells + rm.cells ∧ B.slots = A.slots + rm.slots) := by
  subst hel
  refine backOfWith (Q := fun v h' Lc => (∃ w, v = some w ∧ Q w) ∧ h' = h ∧ Fr n0 Lc) (MetFree.of_bodySF hpn hisWith ?_) hZ wc wz hf hl
  intro p e s m args below meth c s₁ Bd hml hP hK
  obtain ⟨rfl, hZ, hh⟩ := hP
  have X0 : Stand p l e rm s m args below meth c s₁ [] 0 0 := Stand.of_body Bd
  have e0 : s₁.heap = h := by rw [← hh, Bd.state]; rfl
  have W : Wk nw [] n0 Z a0 y.cls y.name bytes maxL rt p l e rm s m args below meth c s₁ h [] 0 0 :=
    ⟨s.vm, 0, [], X0, e0, (State.WarmedH.refl s).since 0, Nat.zero_le _, fun _ => State.WarmedH.refl s, hZ, findClass_of_methodNamed Bd.named, EW.nil, by rw [hh]; exact CHr.refl (fun q hq => nomatch hq), Fr.nil n0, hO, (fun x hm => nomatch hm), Bd.exec, Bd.bytes, hml, Bd.returns, Bd.notSynchronized, (name_of_methodNamed Bd.named Bd.method).1⟩
  obtain ⟨t, st, hrun, v, Lc, hend, ⟨w, rfl, q0, q1⟩, q2, q3, q4, q5, q6⟩ := hB p e s m below meth c s₁ W
  exact ⟨t, .returned (some w), castTop (ef m) st, hrun, hend, some w, Lc, rfl, ⟨⟨w, rfl, q0⟩, q1.symm, q2⟩, ⟨q5.1, q6 hnw, q5.2.2.2⟩⟩
/-- invokestatic of such a method -/
theorem Go.invsH (W : Wk nw EL n0 Z a0 own nm cd ml ret p l e R s m args below meth c T h xs cells slots) {y : MethodName} {bytes : ByteArray} {maxL ix wt kc ks cells' slots' : Nat} {rt : Option FieldType} {hd : List (Nat × Nat × Nat × Nat)} {argsL rest st0 : List Value} {Q : Value → Prop} {ps : List FieldType} {pr : Option FieldType}
    (hB : ∀ vm0, Z.Warmed39 vm0 → Back l R p e below (s.setVm vm0) args y 3 wt (fun A a => a = argsL.toArray ∧ A.U.heap = h ∧ A.cells + kc ≤ R.cells ∧ A.slots + ks ≤ R.slots) (fun A _ v B => ∃ Lc, ((∃ w, v = some w ∧ Q w) ∧ B.U.heap = h ∧ Fr n0 Lc) ∧ B.locs = A.locs ++ Lc ∧ B.cells = A.cells + kc ∧ B.slots = A.slots + ks)) (d : Dec cd pc (.invokestatic ix) 3 n)
    (w1 : (Cond.methodLink own ix y).before a0 Z = true) (w2 : (Cond.static y).before a0 Z = true) (w3 : (Cond.initialized y.cls).before a0 Z = true) (w4 : (Cond.codeWith y bytes maxL rt hd).before a0 Z = true) (hy : y.cls ≠ "java/lang/invoke/MethodHandle" ∧ y.cls ≠ "java/lang/invoke/VarHandle")
    (hpd : parseMethodDescriptor y.desc = some ⟨ps, pr⟩) (hlen : argsL.length = ps.length) (hsz : L.size = ml) (hst : st0 = argsL.reverse ++ rest) (hw : (rest.map fun v => v.category).sum ≤ wt) (hc : cells + kc = cells') (hs : slots + ks = slots') (hc' : cells' ≤ R.cells) (hs' : slots' ≤ R.slots)
    (k : ∀ T' v, Wk nw EL n0 Z a0 own nm cd ml ret p l e R s m args below meth c T' h xs cells' slots' → Q v → Go p e below F T' (mkF m n L (v :: rest))) : Go p e below F T (mkF m pc L st0) := by
  obtain ⟨vm0, k0, locs, X, eT, hS, hk, hn, hZ, ho, hE, hC, hF, hO, hxs, hx, hby, hml, rst⟩ := W
  obtain ⟨d, rfl⟩ := d
  subst hc hs hst
  obtain ⟨v, vm₁, B, hW1, X', ⟨Lc, ⟨⟨w, rfl, hq⟩, hh, hF'⟩, r1, r2, r3⟩, st⟩ := callSH X hx ho (mv hZ w1) (mv hZ w2) (mv hZ w3) (mv hZ w4) hy (hB vm0 hZ) (g := mkF m pc L (argsL.reverse ++ rest)) rfl (hsz.trans hml.symm) (argsL := argsL) (rest := rest) (lenOf hpd hlen) rfl (by show 2 * 0 + _ ≤ _; omega) (hb hby d) (fun _ _ => ⟨rfl, eT, hc', hs'⟩)
  have K : Keep h B.U.heap [] := by rw [hh]; exact Keep.refl h []
  have C1 : CHr Z EL vm0 h vm0 B.U.heap := CHr.keep K (fun x hm => nomatch hm) hC.1
  have W' := Wk.after X eT hS hk hn hZ ho hE hC hF hO hxs ⟨hx, hby, hml, rst⟩ (X'.retabled X'.warmed.wide) (X'.warmed.since _) (by rw [eT]; exact K.1) r1 r2 r3 hF' (hO.keep K (fun x hm => nomatch hm)) (C1.trans (CHv.at X' hZ hE C1.1)) (fun _ => X'.warmed)
  rw [hh] at W'
  exact Go.st st (k B.U w W' hq)
/-- a class one of whose methods is selected is no interface -/
theorem notFace_like {args : Array Value} {s : State} {D : String} {u y : MethodName} (hsel : (Cond.selects D u u).before args s = true) (hu : u.cls = y.cls) : NotFace s y := fun r0 h0 => by
  obtain ⟨c2, r2, m2, q1, q2, q3, q4, kP, hkP, hkPi⟩ := Cond.selects_spec hsel
  have e1 := findClass_of_methodNamed h0
  have e2 := findClass_of_methodNamed q3
  rw [hu] at e2
  have e3 : m2.cls = r0.cls := Option.some.inj (e2.symm.trans e1)
  exact ⟨kP, e3 ▸ hkP, hkPi⟩
/-- invokevirtual where another class's method is selected -/
theorem Go.invvS1 (W : Wk nw EL n0 Z a0 own nm cd ml ret p l e R s m args below meth c T h xs cells slots) {y z u : MethodName} {C D : String} {ix wt kc ks cells' slots' : Nat} {argsL rest st0 : List Value} {b : Addr} {Q : Value → Heap → Prop} {ps : List FieldType} {pr : Option FieldType} (w0 : (Cond.selects D u u).before a0 Z = true) (hu : u.cls = y.cls) (hK : Call nw EL n0 Z xs l R p e below s args z 3 wt (.ref b :: argsL).toArray h kc ks (RV Q)) (d : Dec cd pc (.invokevirtual ix) 3 n)
    (w1 : (Cond.methodLink own ix y).before a0 Z = true) (w2 : (Cond.declares y).before a0 Z = true) (w3 : (Cond.selects C y z).before a0 Z = true) (w4 : (Cond.instanceMethod z).before a0 Z = true) (hy : y.cls ≠ "java/lang/invoke/MethodHandle" ∧ y.cls ≠ "java/lang/invoke/VarHandle") (E : Exa Z h b C)
    (hpd : parseMethodDescriptor y.desc = some ⟨ps, pr⟩) (hlen : argsL.length = ps.length) (hsz : L.size = ml) (hst : st0 = argsL.reverse ++ .ref b :: rest) (hw : (rest.map fun v => v.category).sum ≤ wt) (hc : cells + kc = cells') (hs : slots + ks = slots') (hc' : cells' ≤ R.cells) (hs' : slots' ≤ R.slots)
    (k : ∀ T' h' v, Wk nw EL n0 Z a0 own nm cd ml ret p l e R s m args below meth c T' h' xs cells' slots' → h.size ≤ h'.size → Q v h' → Go p e below F T' (mkF m n L (v :: rest))) : Go p e below F T (mkF m pc L st0) :=
  Go.invv W hK d w1 w2 w3 w4 hy E hpd hlen hsz hst hw hc hs hc' hs' (fun _ hZ => notFace_like (args := #[]) (mvT hZ w0) hu) (fun T' h' v W' g q => by obtain ⟨w, rfl, q⟩ := q; exact k T' h' w W' g q)
/-- baload of a byte[] of which one slot is known -/
theorem Go.baloadAt (W : Wk nw EL n0 Z a0 own nm cd ml ret p l e R s m args below meth c T h xs cells slots) {a : Addr} {cl : Cell} {j : Int32} {v : Value} (i : Nat) (d : Dec cd pc .baload 1 n) (A : Arr Z h a cl .byte) (hj : j = Int32.ofNat i) (hi : i < 2 ^ 31) (hv : cl.slots[i]? = some v)
    (k : Go p e below F T (mkF m n L (v :: r))) : Go p e below F T (mkF m pc L (.int j :: .ref a :: r)) := by
  obtain ⟨vm0, k0, locs, X, eT, hS, hk, hn, hZ, ho, hE, hC, hF, hO, hxs, hx, hby, rest⟩ := W
  obtain ⟨d, rfl⟩ := d
  subst hj
  have hlt : i < cl.slots.size := (Array.getElem?_eq_some_iff.mp hv).1
  exact Go.st (fun t st => X.baloadBytes hx (by rw [eT]; exact A.1) (State.isArrayOf_alike hZ.alike A.2.1) A.2.2 (by rw [clamp_nat hi]; rintro (q | q); rw [Int32.lt_iff_toInt_lt, toInt_nat hi] at q; have e0 : (0 : Int32).toInt = 0 := rfl; omega; omega) (by rw [clamp_nat hi]; exact hv) (g := mkF m pc L (.int (Int32.ofNat i) :: .ref a :: r)) rfl rfl (hb hby d) t st) k
theorem div_nat {a b : Nat} (ha : a < 2 ^ 31) (hb : b < 2 ^ 31) (h0 : 0 < b) : Int32.ofNat a / Int32.ofNat b = Int32.ofNat (a / b) := by
  have hle : a / b ≤ a := Nat.div_le_self a b
  rw [← Int32.toInt_inj, Int32.toInt_div, toInt_nat ha, toInt_nat hb, toInt_nat (by omega)]
  rw [show ((a : Int).tdiv (b : Int)) = ((a / b : Nat) : Int) from rfl]
  generalize a / b = q at hle
  exact Int.bmod_eq_of_le (by omega) (by omega)
theorem neg_int {a : Nat} (ha : a < 2 ^ 31) : (-(Int32.ofNat a)).toInt = -(a : Int) := by
  rw [Int32.toInt_neg, toInt_nat ha]
  exact Int.bmod_eq_of_le (by omega) (by omega)
theorem step10 (a d : Nat) : -(Int32.ofNat a) * 10 - Int32.ofNat d = -(Int32.ofNat (10 * a + d)) := by
  rw [Int32.ofNat_add, Int32.ofNat_mul, show Int32.ofNat 10 = 10 from rfl]
  grind
end Hand
section Sb
variable {nw : Prop} {EL : List (String × Nat)} {n0 : Nat} {Z : State} {a0 : Array Value} {own nm : String} {cd : ByteArray} {ml : Nat} {ret : Option FieldType} {p : Program} {l : Launch} {e : Env} {R : Room} {s : State} {m : MethodId} {args : Array Value} {below : List Frame} {meth : Method} {c : Code} {T : State} {h h' : Heap} {xs : List Addr} {cells slots : Nat}
variable {F : State → Prop} {pc n : Nat} {L : Array Slot} {r : List Value}
/-- the word sameMethod, of a class that declares the method and is no interface -/
theorem same_of {D : String} {u y : MethodName} (w0 : (Cond.selects D u u).before a0 Z = true) (hu : u.cls = y.cls) (w : (Cond.instanceMethod y).before a0 Z = true) (hy : y.cls ≠ "java/lang/invoke/MethodHandle" ∧ y.cls ≠ "java/lang/invoke/VarHandle") : (Cond.sameMethod y.cls y.cls y.name y.desc).before a0 Z = true := by
  obtain ⟨mk, methM, hn, hm, -, -⟩ := Cond.instanceMethod_spec w
  have hf := State.methodFound?_of_named hn hy
  obtain ⟨k, hk, hi⟩ := notFace_like w0 hu mk hn
  have hc := findClass_of_methodNamed hn
  simp only [Cond.before, Cond.holds, Cond.value, hc, hf, hn, hk]
  simp [hi]
/-- the word declares, of an instance method whose code is known -/
theorem decl_of {y : MethodName} {bytes : ByteArray} {maxL : Nat} {rt : Option FieldType} (w : (Cond.instanceMethod y).before a0 Z = true) (wc : (Cond.code y bytes maxL rt).before a0 Z = true) : (Cond.declares y).before a0 Z = true := by
  obtain ⟨mk, methM, hn, hm, hst, -⟩ := Cond.instanceMethod_spec w
  obtain ⟨m2, c2, q1, -, -, -, -, -, -, hsig⟩ := Cond.code_spec hn wc
  cases hm.symm.trans q1
  simp only [Cond.before, Cond.holds, Cond.value, hn, hm, Option.bind_some, Option.map_some]
  simp [hst, hsig]
theorem Go.dup_x1 (C : Cx p below m c cd T) {x y : Value} (d : Dec cd pc .dup_x1 1 n) (hx : x.category = 1) (hy : y.category = 1)
    (k : Go p e below F T (mkF m n L (x :: y :: x :: r))) : Go p e below F T (mkF m pc L (x :: y :: r)) := by
  obtain ⟨t, st, f⟩ := k; obtain ⟨d, rfl⟩ := d
  exact ⟨t, XT.dupX1 C.1 C.2.1 rfl (hb C.2.2 d) rfl hx hy st, f⟩
theorem Go.ishr (C : Cx p below m c cd T) {x y : Int32} (d : Dec cd pc .ishr 1 n)
    (k : Go p e below F T (mkF m n L (.int (x >>> (y &&& 31)) :: r))) : Go p e below F T (mkF m pc L (.int y :: .int x :: r)) := by
  obtain ⟨t, st, f⟩ := k; obtain ⟨d, rfl⟩ := d
  exact ⟨t, XT.ishr C.1 C.2.1 rfl (hb C.2.2 d) rfl st, f⟩
/-- invokespecial of the superclass's method, a value returned -/
theorem Go.sup1 (W : Wk nw EL n0 Z a0 own nm cd ml ret p l e R s m args below meth c T h xs cells slots) {y u : MethodName} {D K : String} {bytes : ByteArray} {maxL ix wt kc ks cells' slots' : Nat} {rt : Option FieldType} {argsL rest st0 : List Value} {b : Addr} {Q : Value → Heap → Prop} {ps : List FieldType} {pr : Option FieldType}
    (w0 : (Cond.selects D u u).before a0 Z = true) (hu : u.cls = y.cls) (hK : Call nw EL n0 Z xs l R p e below s args y 3 wt (.ref b :: argsL).toArray h kc ks (RV Q)) (d : Dec cd pc (.invokespecial ix) 3 n)
    (hy1 : y.name ≠ "<init>") (w1 : (Cond.methodLink own ix y).before a0 Z = true) (w3 : (Cond.instanceMethod y).before a0 Z = true) (w4 : (Cond.superclass own y.cls).before a0 Z = true) (wc : (Cond.code y bytes maxL rt).before a0 Z = true) (hy : y.cls ≠ "java/lang/invoke/MethodHandle" ∧ y.cls ≠ "java/lang/invoke/VarHandle") (I : Ins Z h b K true)
    (hpd : parseMethodDescriptor y.desc = some ⟨ps, pr⟩) (hlen : argsL.length = ps.length) (hsz : L.size = ml) (hst : st0 = argsL.reverse ++ .ref b :: rest) (hw : (rest.map fun v => v.category).sum ≤ wt) (hc : cells + kc = cells') (hs : slots + ks = slots') (hc' : cells' ≤ R.cells) (hs' : slots' ≤ R.slots)
    (k : ∀ T' h' v, Wk nw EL n0 Z a0 own nm cd ml ret p l e R s m args below meth c T' h' xs cells' slots' → h.size ≤ h'.size → Q v h' → Go p e below F T' (mkF m n L (v :: rest))) : Go p e below F T (mkF m pc L st0) := by
  obtain ⟨vm0, k0, locs, X, eT, hS, hk, hn, hZ, ho, hE, hC, hF, hO, hxs, hx, hby, hml, rst⟩ := W
  obtain ⟨d, rfl⟩ := d
  subst hc hs hst
  obtain ⟨v, vm₁, B, hW1, X', hS2, hg, ⟨Lc, hq, r1, r2, r3, hF', hO', hC', hn'⟩, st⟩ := superBackS X hx hZ ho w1 (same_of w0 hu w3 hy) w3 w4 hy1 (hK vm0 hZ hC.1 hO hxs) eT I (g := mkF m pc L (argsL.reverse ++ .ref b :: rest)) rfl (hsz.trans hml.symm) wc (argsL := argsL) (rest := rest) (lenOf hpd hlen) rfl (by show 2 * 0 + _ ≤ _; omega) (hb hby d) (fun _ _ => ⟨rfl, eT, hc', hs'⟩)
  obtain ⟨w, rfl, hq⟩ := hq
  exact Go.run st (k B.U B.U.heap w (Wk.after X eT hS hk hn hZ ho hE hC hF hO hxs ⟨hx, hby, hml, rst⟩ X' hS2 hg r1 r2 r3 hF' hO' hC' hn') (eT ▸ hg) hq)
/-- System.arraycopy between byte arrays, into one of the walk's own: from sp on, the target from 0 on -/
theorem Go.acopyB (W : Wk nw EL n0 Z a0 own nm cd ml ret p l e R s m args below meth c T h xs cells slots) {ix wt : Nat} {a b : Addr} {ka kb : ClassId} {cs ds : List Int32} {sp nn : Nat} (d : Dec cd pc (.invokestatic ix) 3 n) (w1 : (Cond.methodLink own ix Jvm.Stand.acN).before a0 Z = true) (w2 : (Cond.native Jvm.Stand.acN).before a0 Z = true) (w3 : (Cond.static Jvm.Stand.acN).before a0 Z = true) (w4 : (Cond.initialized "java/lang/System").before a0 Z = true)
    (A : BArr Z h a ka cs) (B : BArr Z h b kb ds) (hb' : b ∈ xs) (h1 : sp + nn ≤ cs.length) (h2 : nn = ds.length) (h3 : cs.length < 2 ^ 31) (h4 : ds.length < 2 ^ 31) (hsz : L.size = ml) (hf : 1 ≤ R.frames) (hw : (r.map fun v => v.category).sum ≤ wt) (hl : wt + (nativeFrameWords "java/lang/System" "arraycopy" 5 + 11) ≤ R.locals)
    (k : ∀ T' h', Wk nw EL n0 Z a0 own nm cd ml ret p l e R s m args below meth c T' h' xs cells slots → Keep h h' [b] → BArr Z h' b kb ((cs.drop sp).take nn) → Go p e below F T' (mkF m n L r)) : Go p e below F T (mkF m pc L (.int (Int32.ofNat nn) :: .int 0 :: .ref b :: .int (Int32.ofNat sp) :: .ref a :: r)) := by
  obtain ⟨vm0, k0, locs, X, eT, hS, hk, hn, hZ, ho, hE, hC, hF, hO, hxs, hx, hby, hml, rst⟩ := W
  obtain ⟨d, rfl⟩ := d
  have q := hxs b hb'
  have nn0 : ∀ t : Nat, t < 2 ^ 31 → ¬ Int32.ofNat t < 0 := fun t ht => by rw [Int32.lt_iff_toInt_lt, toInt_nat ht]; show ¬ ((t : Int) < 0); omega
  have cl0 : (0 : Int32).toNatClampNeg = 0 := by decide
  have hlen1 : ((cs.drop sp).take nn).length = ds.length := by rw [List.length_take, List.length_drop]; omega
  obtain ⟨T', h', Lc, X', e', N, K, B', st⟩ := cpA X hx hZ ho w1 w2 w3 w4 eT A B (Or.inl ⟨rfl, rfl⟩) (sp := Int32.ofNat sp) (dp := 0) (nn := Int32.ofNat nn) (us := ((cs.drop sp).take nn).map (fun c => Value.int c.toInt8.toInt32)) (nn0 sp (by omega)) (by decide) (nn0 nn (by omega))
    (by rw [clamp_nat (by omega), clamp_nat (by omega), clamp_nat h3]; exact h1) (by rw [cl0, clamp_nat (by omega), clamp_nat h4]; omega)
    (by
      rw [clamp_nat (by omega), clamp_nat (by omega)]
      apply List.ext_getElem?
      intro i
      by_cases hi : i < nn
      · rw [List.getElem?_map, List.getElem?_take, if_pos hi, List.getElem?_drop, List.getElem?_map, List.getElem?_range hi]
        simp only [Option.map_some, List.getD_eq_getElem?_getD, List.getElem?_map]
        rw [List.getElem?_eq_getElem (show sp + i < cs.length by omega)]
        rfl
      · rw [List.getElem?_eq_none (by rw [List.length_map, hlen1]; omega), List.getElem?_eq_none (by rw [List.length_map, List.length_range]; omega)])
    (by rw [cl0, clamp_nat (by omega), List.length_map, List.length_map]; omega) hF q.1 (g := mkF m pc L (.int (Int32.ofNat nn) :: .int 0 :: .ref b :: .int (Int32.ofNat sp) :: .ref a :: r)) rfl (hsz.trans hml.symm) rfl (hb hby d) hf (W := wt) (by show 2 * 0 + _ ≤ _; omega) hl
  have C1 : CHr Z EL vm0 h vm0 h' := CHr.keep K (fun x hm => by cases List.mem_singleton.mp hm; exact q.2.2) hC.1
  have B2 : BArr Z h' b kb ((cs.drop sp).take nn) := by
    unfold BArr
    rw [hlen1, List.map_map]
    have e0 : List.drop (0 + nn) ((ds.map fun c => c.toInt8.toInt32).map Value.int) = [] := List.drop_eq_nil_of_le (by rw [List.length_map, List.length_map]; omega)
    rw [cl0, clamp_nat (by omega), e0, List.append_nil] at B'
    simpa [h2, Function.comp_def] using B'
  exact Go.st st (k T' h' ⟨vm0, k0, _, X', e', hS, Nat.le_trans hk K.1, hn, hZ, ho, hE, hC.trans C1, N, hO.keep K (fun x hm => by cases List.mem_singleton.mp hm; exact q.1), fun x hm => ⟨(hxs x hm).1, Nat.lt_of_lt_of_le (hxs x hm).2.1 K.1, C1.safe (hxs x hm).2.1 (hxs x hm).2.2⟩, hx, hby, hml, rst⟩ K B2)
/-- the same, into the front of a longer array -/
theorem Go.acopyG (W : Wk nw EL n0 Z a0 own nm cd ml ret p l e R s m args below meth c T h xs cells slots) {ix wt : Nat} {a b : Addr} {ka kb : ClassId} {cs ds : List Int32} {sp nn : Nat} (d : Dec cd pc (.invokestatic ix) 3 n) (w1 : (Cond.methodLink own ix Jvm.Stand.acN).before a0 Z = true) (w2 : (Cond.native Jvm.Stand.acN).before a0 Z = true) (w3 : (Cond.static Jvm.Stand.acN).before a0 Z = true) (w4 : (Cond.initialized "java/lang/System").before a0 Z = true)
    (A : BArr Z h a ka cs) (B : BArr Z h b kb ds) (hb' : b ∈ xs) (h1 : sp + nn ≤ cs.length) (h2 : nn ≤ ds.length) (h3 : cs.length < 2 ^ 31) (h4 : ds.length < 2 ^ 31) (hsz : L.size = ml) (hf : 1 ≤ R.frames) (hw : (r.map fun v => v.category).sum ≤ wt) (hl : wt + (nativeFrameWords "java/lang/System" "arraycopy" 5 + 11) ≤ R.locals)
    (k : ∀ T' h', Wk nw EL n0 Z a0 own nm cd ml ret p l e R s m args below meth c T' h' xs cells slots → Keep h h' [b] → BArr Z h' b kb ((cs.drop sp).take nn ++ ds.drop nn) → Go p e below F T' (mkF m n L r)) : Go p e below F T (mkF m pc L (.int (Int32.ofNat nn) :: .int 0 :: .ref b :: .int (Int32.ofNat sp) :: .ref a :: r)) := by
  obtain ⟨vm0, k0, locs, X, eT, hS, hk, hn, hZ, ho, hE, hC, hF, hO, hxs, hx, hby, hml, rst⟩ := W
  obtain ⟨d, rfl⟩ := d
  have q := hxs b hb'
  have nn0 : ∀ t : Nat, t < 2 ^ 31 → ¬ Int32.ofNat t < 0 := fun t ht => by rw [Int32.lt_iff_toInt_lt, toInt_nat ht]; show ¬ ((t : Int) < 0); omega
  have cl0 : (0 : Int32).toNatClampNeg = 0 := by decide
  have hlen1 : ((cs.drop sp).take nn).length = nn := by rw [List.length_take, List.length_drop]; omega
  obtain ⟨T', h', Lc, X', e', N, K, B', st⟩ := cpA X hx hZ ho w1 w2 w3 w4 eT A B (Or.inl ⟨rfl, rfl⟩) (sp := Int32.ofNat sp) (dp := 0) (nn := Int32.ofNat nn) (us := ((cs.drop sp).take nn).map (fun c => Value.int c.toInt8.toInt32)) (nn0 sp (by omega)) (by decide) (nn0 nn (by omega))
    (by rw [clamp_nat (by omega), clamp_nat (by omega), clamp_nat h3]; exact h1) (by rw [cl0, clamp_nat (by omega), clamp_nat h4]; omega)
    (by
      rw [clamp_nat (by omega), clamp_nat (by omega)]
      apply List.ext_getElem?
      intro i
      by_cases hi : i < nn
      · rw [List.getElem?_map, List.getElem?_take, if_pos hi, List.getElem?_drop, List.getElem?_map, List.getElem?_range hi]
        simp only [Option.map_some, List.getD_eq_getElem?_getD, List.getElem?_map]
        rw [List.getElem?_eq_getElem (show sp + i < cs.length by omega)]
        rfl
      · rw [List.getElem?_eq_none (by rw [List.length_map, hlen1]; omega), List.getElem?_eq_none (by rw [List.length_map, List.length_range]; omega)])
    (by rw [cl0, clamp_nat (by omega), List.length_map, List.length_map]; omega) hF q.1 (g := mkF m pc L (.int (Int32.ofNat nn) :: .int 0 :: .ref b :: .int (Int32.ofNat sp) :: .ref a :: r)) rfl (hsz.trans hml.symm) rfl (hb hby d) hf (W := wt) (by show 2 * 0 + _ ≤ _; omega) hl
  have C1 : CHr Z EL vm0 h vm0 h' := CHr.keep K (fun x hm => by cases List.mem_singleton.mp hm; exact q.2.2) hC.1
  have B2 : BArr Z h' b kb ((cs.drop sp).take nn ++ ds.drop nn) := by
    unfold BArr
    rw [List.length_append, hlen1, List.length_drop, show nn + (ds.length - nn) = ds.length by omega, List.map_append, List.map_append, List.map_map]
    rw [cl0, clamp_nat (by omega), Nat.zero_add, List.take_zero, List.nil_append] at B'
    simpa [Function.comp_def] using B'
  exact Go.st st (k T' h' ⟨vm0, k0, _, X', e', hS, Nat.le_trans hk K.1, hn, hZ, ho, hE, hC.trans C1, N, hO.keep K (fun x hm => by cases List.mem_singleton.mp hm; exact q.1), fun x hm => ⟨(hxs x hm).1, Nat.lt_of_lt_of_le (hxs x hm).2.1 K.1, C1.safe (hxs x hm).2.1 (hxs x hm).2.2⟩, hx, hby, hml, rst⟩ K B2)
/-- a byte[] whose length is no constant's is no constant's array -/
theorem Wk.bar (W : Wk nw EL n0 Z a0 own nm cd ml ret p l e R s m args below meth c T h xs cells slots) {b : Addr} {kb : ClassId} {cs : List Int32} (A : BArr Z h b kb cs) (hx : n0 ≤ b) (hl : cs.length < 2 ^ 31)
    (hT : ∀ p ∈ EL, ∃ text : String, (Cond.stringLink p.1 p.2 text).before a0 Z = true ∧ (∀ c ∈ text.toList, c.toNat < 256) ∧ text.toList.length ≠ cs.length) : Wk nw EL n0 Z a0 own nm cd ml ret p l e R s m args below meth c T h (b :: xs) cells slots := by
  obtain ⟨vm0, k0, locs, X, eT, hS, hk, hn, hZ, ho, hE, hC, hF, hO, hxs, rest⟩ := W
  refine ⟨vm0, k0, locs, X, eT, hS, hk, hn, hZ, ho, hE, hC, hF, hO, fun y q => ?_, rest⟩
  rcases List.mem_cons.mp q with rfl | q
  · refine ⟨hx, A.lt, fun B => ?_⟩
    obtain ⟨cl, A1, -, S1, M1, -, -⟩ := A
    rw [clamp_nat hl] at S1
    obtain ⟨p, hp, u, a, hb, q, -, F, e | e⟩ := B
    · have h1 := F.ha
      rw [← e] at h1
      obtain ⟨A0, ⟨-, kA, hkA, compA, hkindA⟩, -⟩ := A1
      obtain ⟨kA', hkA', ekA⟩ := hZ.alike.2.2 _ _ hkA
      have ec : q.sC = cl := Option.some.inj ((show h[y]? = some q.sC from h1).symm.trans A0)
      obtain ⟨cS, ⟨-, -, e2⟩, ⟨kS, g1, g2, -⟩, -⟩ := F
      rw [← e2, ec] at g1
      have ek : kS = kA' := Option.some.inj ((show vm0.classes[cl.cls]? = some kS from g1).symm.trans hkA')
      rw [ek, ekA, hkindA] at g2
      cases g2
    · have h1 := F.hd
      rw [← e] at h1
      have ec : q.SA = cl := Option.some.inj ((show h[y]? = some q.SA from h1).symm.trans A1.1)
      obtain ⟨cS, -, -, -, hsl⟩ := F
      rw [ec] at hsl
      obtain ⟨text, w, ht, hne⟩ := hT p hp
      obtain ⟨c1, k1, cf, i, hc1, hk1, hcf, hpool, hu, -⟩ := hb
      have w2 : (Cond.stringLink p.1 p.2 text).before a0 (Wst Z vm0 h) = true := mvS (s := { Z with heap := h }) hZ w
      obtain ⟨k2, cf2, i2, u2, hk2, hcf2, hp2, hu2, -, htext, -⟩ := Cond.stringLink_spec (s := Wst Z vm0 h) hc1 w2
      cases hk1.symm.trans hk2
      cases hcf.symm.trans hcf2
      cases hpool.symm.trans hp2
      cases hu.symm.trans hu2
      have hlat := Jvm.ClassFile.lat_of_text htext ht
      have hs2 : (stringBytes u).size = u.size := by simp [stringBytes, hlat]
      have hsz := Jvm.ClassFile.app_eq u.toList "" text (fun z hz => by have := Array.all_eq_true_iff_forall_mem.mp hlat z (Array.mem_toList_iff.mp hz); exact of_decide_eq_true this) htext
      have hl2 : text.toList.length = u.size := by rw [hsz]; simp
      rw [hsl, hs2] at S1
      exact hne (hl2.trans S1)
  · exact hxs y q
end Sb
section Ints
variable {nw : Prop} {EL : List (String × Nat)} {n0 : Nat} {Z : State} {a0 : Array Value} {own nm : String} {cd : ByteArray} {ml : Nat} {ret : Option FieldType} {p : Program} {l : Launch} {e : Env} {R : Room} {s : State} {m : MethodId} {args : Array Value} {below : List Frame} {meth : Method} {c : Code} {T : State} {h h' : Heap} {xs : List Addr} {cells slots : Nat}
variable {F : State → Prop} {pc n : Nat} {L : Array Slot} {r : List Value}
/-- iaload of an int[] of which one slot is known -/
theorem Go.ialoadAt (W : Wk nw EL n0 Z a0 own nm cd ml ret p l e R s m args below meth c T h xs cells slots) {a : Addr} {cl : Cell} {j : Int32} {v : Value} (i : Nat) (d : Dec cd pc .iaload 1 n) (A : Arr Z h a cl .int) (hj : j = Int32.ofNat i) (hi : i < 2 ^ 31) (hv : cl.slots[i]? = some v)
    (k : Go p e below F T (mkF m n L (v :: r))) : Go p e below F T (mkF m pc L (.int j :: .ref a :: r)) := by
  obtain ⟨vm0, k0, locs, X, eT, hS, hk, hn, hZ, ho, hE, hC, hF, hO, hxs, hx, hby, rest⟩ := W
  obtain ⟨d, rfl⟩ := d
  subst hj
  have hlt : i < cl.slots.size := (Array.getElem?_eq_some_iff.mp hv).1
  exact Go.st (fun t st => X.iaload hx (by rw [eT]; exact A.1) (State.isArrayOf_alike hZ.alike A.2.1) A.2.2 (by rw [clamp_nat hi]; rintro (q | q); rw [Int32.lt_iff_toInt_lt, toInt_nat hi] at q; have e0 : (0 : Int32).toInt = 0 := rfl; omega; omega) (by rw [clamp_nat hi]; exact hv) (g := mkF m pc L (.int (Int32.ofNat i) :: .ref a :: r)) rfl rfl (hb hby d) t st) k
theorem by8_and {x : Int32} (h : ¬ x < 0 ∧ ¬ (255 : Int32) < x) : by8 x &&& 255 = x := by
  obtain ⟨k, hk, rfl⟩ := ch_cases h
  exact (by decide +kernel : ∀ k : Fin 256, by8 (Int32.ofNat k.val) &&& 255 = Int32.ofNat k.val) ⟨k, hk⟩
/-- two Strings of different lengths are two -/
theorem Str.ne {a b : Addr} {cs ds : List Int32} (S : Str Z h a cs) (S2 : Str Z h b ds) (hne : cs.length ≠ ds.length) : a ≠ b := fun q => by
  subst q
  obtain ⟨-, -, ⟨b1, k1, V1, A1⟩, -, l1⟩ := S
  obtain ⟨-, -, ⟨b2, k2, V2, A2⟩, -, l2⟩ := S2
  have e : (Value.ref b1) = .ref b2 := Classical.byContradiction fun q => (Fld.ne V1 V2 q) rfl
  cases e
  obtain ⟨c1, q1, -, s1, -⟩ := A1
  obtain ⟨c2, q2, -, s2, -⟩ := A2
  cases q1.1.symm.trans q2.1
  rw [clamp_nat (by omega)] at s1 s2
  exact hne (s1.symm.trans s2)
theorem dec1_nat {a : Nat} (h0 : 0 < a) (ha : a < 2 ^ 31) : Int32.ofNat a + Int32.ofInt (-1) = Int32.ofNat (a - 1) := by
  rw [← Int32.toInt_inj, Int32.toInt_add, toInt_nat ha, toInt_nat (by omega), show (Int32.ofInt (-1)).toInt = -1 from by decide]
  exact (Int.bmod_eq_of_le (by omega) (by omega)).trans (by omega)
end Ints
section Lst
variable {nw : Prop} {EL : List (String × Nat)} {n0 : Nat} {Z : State} {a0 : Array Value} {own nm : String} {cd : ByteArray} {ml : Nat} {ret : Option FieldType} {p : Program} {l : Launch} {e : Env} {R : Room} {s : State} {m : MethodId} {args : Array Value} {below : List Frame} {meth : Method} {c : Code} {T : State} {h h' : Heap} {xs : List Addr} {cells slots : Nat}
variable {F : State → Prop} {pc n : Nat} {L : Array Slot} {r : List Value}
/-- an array of references that takes whatever is a C -/
def OAw (Z : State) (h : Heap) (a : Addr) (C ad : String) (vs : List Value) : Prop := ∃ cl : Cell, Arr Z h a cl (.object C) ∧ Exa Z h a ad ∧ cl.slots = vs.toArray ∧ (∀ v ∈ vs, v.isRef = true) ∧ Ovr Z cl.cls C
theorem OAw.oar {a : Addr} {C ad : String} {vs : List Value} (O : OAw Z h a C ad vs) : OAr Z h a C ad vs := by obtain ⟨cl, A, E, S, hv, -⟩ := O; exact ⟨cl, A, E, S, hv⟩
theorem OAw.lt {a : Addr} {C ad : String} {vs : List Value} (O : OAw Z h a C ad vs) : a < h.size := O.oar.lt
theorem OAw.ext {a : Addr} {C ad : String} {vs : List Value} (O : OAw Z h a C ad vs) (E : Ext h h') : OAw Z h' a C ad vs := by obtain ⟨cl, A, X, S⟩ := O; exact ⟨cl, A.ext E, X.ext E, S⟩
theorem OAw.keep {a : Addr} {C ad : String} {vs : List Value} {ws : List Addr} (O : OAw Z h a C ad vs) (K : Keep h h' ws) (q : a ∉ ws) : OAw Z h' a C ad vs := by obtain ⟨cl, A, X, S⟩ := O; exact ⟨cl, ⟨K.2.1 a cl A.1 q, A.2⟩, X.keep K, S⟩
theorem OAw.other {a b : Addr} {C ad : String} {vs : List Value} {sl : Nat} {v : Value} (O : OAw Z h b C ad vs) (W : Wr h h' a sl v) (q : b ≠ a) : OAw Z h' b C ad vs := O.keep (Keep.of_wr W) (fun z => q (List.mem_singleton.mp z))
theorem OAr.other {a b : Addr} {C ad : String} {vs : List Value} {sl : Nat} {v : Value} (O : OAr Z h b C ad vs) (W : Wr h h' a sl v) (q : b ≠ a) : OAr Z h' b C ad vs := O.keep (Keep.of_wr W) (fun z => q (List.mem_singleton.mp z))
/-- anewarray -/
theorem Go.newobjs (W : Wk nw EL n0 Z a0 own nm cd ml ret p l e R s m args below meth c T h xs cells slots) {C ad : String} {ix cells' slots' : Nat} {z : Int32} (k0' : Nat) (d : Dec cd pc (.anewarray ix) 3 n) (w1 : (Cond.classLink own ix C).before a0 Z = true) (w2 : (Cond.arrayOver (.object C)).before a0 Z = true)
    (hz : z = Int32.ofNat k0') (hk0 : k0' < 67108864) (hc : cells + 1 = cells') (hs : slots + k0' = slots') (hc' : cells' ≤ R.cells) (hs' : slots' ≤ R.slots) (had : "[" ++ (FieldType.object C).toString = ad)
    (k : ∀ T' h' a, a = h.size → Wk nw EL n0 Z a0 own nm cd ml ret p l e R s m args below meth c T' h' (a :: xs) cells' slots' → Ext h h' → OAw Z h' a C ad (List.replicate k0' .null) → Go p e below F T' (mkF m n L (.ref a :: r))) : Go p e below F T (mkF m pc L (.int z :: r)) := by
  obtain ⟨vm0, k0, locs, X, eT, hS, hk, hn, hZ, ho, hE, hC, hF, hO, hxs, hx, hby, rest⟩ := W
  obtain ⟨d, rfl⟩ := d
  subst hc hs hz
  have hcl : (Int32.ofNat k0').toNatClampNeg = k0' := clamp_nat (by omega)
  obtain ⟨T', h', cA, X', e', E, A, A2, O, st⟩ := newRE X hx hZ ho w1 w2 eT (g := mkF m pc L (.int (Int32.ofNat k0') :: r)) rfl (hb hby d) rfl (by rw [Int32.lt_iff_toInt_lt, toInt_nat (by omega)]; show ¬ ((k0' : Int) < 0); omega) (cap := k0') (by rw [hcl]; exact Nat.le_refl _) (by omega) hc' hs' had
  have C1 := CHr.ext E hC.1
  refine Go.st st (k T' h' h.size rfl ⟨vm0, k0, locs, X', e', hS, Nat.le_trans hk E.1, hn, hZ, ho, hE, hC.trans C1, hF, hO.ext E, fun x hm => ?_, hx, hby, rest⟩ E ⟨_, A, A2, ?_, ?_, O⟩)
  · rcases List.mem_cons.mp hm with rfl | hm
    · exact ⟨old_le hO, A.lt, Safe.ext E hC.1 (Safe.new (Nat.le_refl _))⟩
    · exact ⟨(hxs x hm).1, Nat.lt_of_lt_of_le (hxs x hm).2.1 E.1, C1.safe (hxs x hm).2.1 (hxs x hm).2.2⟩
  · show Array.replicate _ _ = _
    rw [hcl]; simp [defaultValue]
  · intro v hv
    rw [List.eq_of_mem_replicate hv]; rfl
/-- aastore into an array of the walk's own -/
theorem Go.aastore (W : Wk nw EL n0 Z a0 own nm cd ml ret p l e R s m args below meth c T h xs cells slots) {a y : Addr} {C ad : String} {vs : List Value} {j : Int32} (i : Nat) (d : Dec cd pc .aastore 1 n) (O : OAw Z h a C ad vs) (ha : a ∈ xs) (hj : j = Int32.ofNat i) (hi : i < vs.length) (hlen : vs.length < 2 ^ 31) (I : Ins Z h y C true)
    (k : ∀ T' h', Wk nw EL n0 Z a0 own nm cd ml ret p l e R s m args below meth c T' h' xs cells slots → Keep h h' [a] → OAw Z h' a C ad (vs.set i (.ref y)) → Go p e below F T' (mkF m n L r)) : Go p e below F T (mkF m pc L (.ref y :: .int j :: .ref a :: r)) := by
  obtain ⟨vm0, k0, locs, X, eT, hS, hk, hn, hZ, ho, hE, hC, hF, hO, hxs, hx, hby, rest⟩ := W
  obtain ⟨d, rfl⟩ := d
  subst hj
  obtain ⟨cl, A1, A2, S1, hv, OV⟩ := id O
  have hin : ¬ (Int32.ofNat i < 0 ∨ cl.slots.size ≤ (Int32.ofNat i).toNatClampNeg) := by
    rw [clamp_nat (by omega), S1]
    rintro (q | q)
    · rw [Int32.lt_iff_toInt_lt, toInt_nat (by omega)] at q; have e0 : (0 : Int32).toInt = 0 := rfl; omega
    · simp at q; omega
  obtain ⟨T', h', X', e', Wr', st⟩ := stR X hx hZ eT A1 hin rfl (Sto.of A1 OV I) (g := mkF m pc L (.ref y :: .int (Int32.ofNat i) :: .ref a :: r)) rfl rfl (hb hby d)
  have q := hxs a ha
  have C1 := CHr.wr Wr' q.2.2 hC.1
  have sz : h'.size = h.size := Wr'.size
  have A3 : OAw Z h' a C ad (vs.set i (.ref y)) := by
    refine ⟨_, A1.same Wr', A2.wr Wr', ?_, fun v hm => (List.mem_or_eq_of_mem_set hm).elim (hv v) (fun z => by rw [z]; rfl), OV⟩
    show (cl.slots.setIfInBounds _ _) = _
    rw [clamp_nat (by omega), S1]; simp
  exact Go.st st (k T' h' ⟨vm0, k0, _, X', e', hS, by rw [sz]; exact hk, hn, hZ, ho, hE, hC.trans C1, Fr.snoc X' hF q.1, hO.wr Wr' q.1, fun x hm => ⟨(hxs x hm).1, by rw [sz]; exact (hxs x hm).2.1, C1.safe (hxs x hm).2.1 (hxs x hm).2.2⟩, hx, hby, rest⟩ (Keep.of_wr Wr') A3)
/-- invokeinterface, a value back -/
theorem Go.invf1 (W : Wk nw EL n0 Z a0 own nm cd ml ret p l e R s m args below meth c T h xs cells slots) {y z : MethodName} {C : String} {ix cnt wt kc ks cells' slots' : Nat} {argsL rest st0 : List Value} {b : Addr} {Q : Value → Heap → Prop} {ps : List FieldType} {pr : Option FieldType} (hK : Call nw EL n0 Z xs l R p e below s args z 5 wt (.ref b :: argsL).toArray h kc ks (RV Q)) (d : Dec cd pc (.invokeinterface ix cnt) 5 n)
    (w1 : (Cond.methodLink own ix y).before a0 Z = true) (w2 : (Cond.declares y).before a0 Z = true) (w3 : (Cond.interfaceMethod y.cls y.cls y.name y.desc).before a0 Z = true) (w4 : (Cond.selects C y z).before a0 Z = true) (w5 : (Cond.instanceMethod z).before a0 Z = true) (w6 : (Cond.publicMethod z).before a0 Z = true) (w7 : (Cond.unhidden C y.name y.desc).before a0 Z = true) (w8 : (Cond.castable C y.cls).before a0 Z = true) (hy : y.cls ≠ "java/lang/invoke/MethodHandle" ∧ y.cls ≠ "java/lang/invoke/VarHandle") (E : Exa Z h b C)
    (hpd : parseMethodDescriptor y.desc = some ⟨ps, pr⟩) (hlen : argsL.length = ps.length) (hsz : L.size = ml) (hst : st0 = argsL.reverse ++ .ref b :: rest) (hw : (rest.map fun v => v.category).sum ≤ wt) (hc : cells + kc = cells') (hs : slots + ks = slots') (hc' : cells' ≤ R.cells) (hs' : slots' ≤ R.slots)
    (k : ∀ T' h' v, Wk nw EL n0 Z a0 own nm cd ml ret p l e R s m args below meth c T' h' xs cells' slots' → h.size ≤ h'.size → Q v h' → Go p e below F T' (mkF m n L (v :: rest))) : Go p e below F T (mkF m pc L st0) := by
  obtain ⟨vm0, k0, locs, X, eT, hS, hk, hn, hZ, ho, hE, hC, hF, hO, hxs, hx, hby, hml, rst⟩ := W
  obtain ⟨d, rfl⟩ := d
  subst hc hs hst
  obtain ⟨cq, kq, qa, qb, qc⟩ := isOf (s := s.setVm vm0) hZ eT E
  obtain ⟨v, vm₁, B, hW1, X', hS2, hg, ⟨Lc, hq, r1, r2, r3, hF', hO', hC', hn'⟩, st⟩ := X.interfaceBackS hx ho (mv hZ w1) (mv hZ w2) (mv hZ w3 (by simp [Cond.onTables, Cond.keepsFace, Cond.keeps, Cond.steady, Cond.faceAtom, hy.1, hy.2])) (mv hZ w4) (mv hZ w5) (mv hZ w6) (mv hZ w7) (mv hZ w8) hy (hK vm0 hZ hC.1 hO hxs) qa qb qc (g := mkF m pc L (argsL.reverse ++ .ref b :: rest)) rfl (hsz.trans hml.symm) (Steps.refl _) (argsL := argsL) (rest := rest) (lenOf hpd hlen) rfl (by show 2 * 0 + _ ≤ _; omega) (hb hby d) (fun _ _ => ⟨rfl, eT, hc', hs'⟩)
  obtain ⟨w, rfl, hq⟩ := hq
  exact Go.run st (k B.U B.U.heap w (Wk.after X eT hS hk hn hZ ho hE hC hF hO hxs ⟨hx, hby, hml, rst⟩ X' hS2 hg r1 r2 r3 hF' hO' hC' hn') (eT ▸ hg) hq)
/-- an array of references whose length is no constant's length is no constant's array -/
theorem Wk.oar (W : Wk nw EL n0 Z a0 own nm cd ml ret p l e R s m args below meth c T h xs cells slots) {b : Addr} {C ad : String} {vs : List Value} (A : OAw Z h b C ad vs) (hx : n0 ≤ b)
    (hT : ∀ p ∈ EL, ∃ text : String, (Cond.stringLink p.1 p.2 text).before a0 Z = true ∧ (∀ c ∈ text.toList, c.toNat < 256) ∧ text.toList.length ≠ vs.length) : Wk nw EL n0 Z a0 own nm cd ml ret p l e R s m args below meth c T h (b :: xs) cells slots := by
  obtain ⟨vm0, k0, locs, X, eT, hS, hk, hn, hZ, ho, hE, hC, hF, hO, hxs, rest⟩ := W
  refine ⟨vm0, k0, locs, X, eT, hS, hk, hn, hZ, ho, hE, hC, hF, hO, fun y q => ?_, rest⟩
  rcases List.mem_cons.mp q with rfl | q
  · refine ⟨hx, A.lt, fun B => ?_⟩
    obtain ⟨cl, A1, -, S0, -⟩ := A
    have S1 : cl.slots.size = vs.length := by rw [S0]; simp
    obtain ⟨p, hp, u, a, hb, q, -, F, e | e⟩ := B
    · have h1 := F.ha
      rw [← e] at h1
      obtain ⟨A0, ⟨-, kA, hkA, compA, hkindA⟩, -⟩ := A1
      obtain ⟨kA', hkA', ekA⟩ := hZ.alike.2.2 _ _ hkA
      have ec : q.sC = cl := Option.some.inj ((show h[y]? = some q.sC from h1).symm.trans A0)
      obtain ⟨cS, ⟨-, -, e2⟩, ⟨kS, g1, g2, -⟩, -⟩ := F
      rw [← e2, ec] at g1
      have ek : kS = kA' := Option.some.inj ((show vm0.classes[cl.cls]? = some kS from g1).symm.trans hkA')
      rw [ek, ekA, hkindA] at g2
      cases g2
    · have h1 := F.hd
      rw [← e] at h1
      have ec : q.SA = cl := Option.some.inj ((show h[y]? = some q.SA from h1).symm.trans A1.1)
      obtain ⟨cS, -, -, -, hsl⟩ := F
      rw [ec] at hsl
      obtain ⟨text, w, ht, hne⟩ := hT p hp
      obtain ⟨c1, k1, cf, i, hc1, hk1, hcf, hpool, hu, -⟩ := hb
      have w2 : (Cond.stringLink p.1 p.2 text).before a0 (Wst Z vm0 h) = true := mvS (s := { Z with heap := h }) hZ w
      obtain ⟨k2, cf2, i2, u2, hk2, hcf2, hp2, hu2, -, htext, -⟩ := Cond.stringLink_spec (s := Wst Z vm0 h) hc1 w2
      cases hk1.symm.trans hk2
      cases hcf.symm.trans hcf2
      cases hpool.symm.trans hp2
      cases hu.symm.trans hu2
      have hlat := Jvm.ClassFile.lat_of_text htext ht
      have hs2 : (stringBytes u).size = u.size := by simp [stringBytes, hlat]
      have hsz := Jvm.ClassFile.app_eq u.toList "" text (fun z hz => by have := Array.all_eq_true_iff_forall_mem.mp hlat z (Array.mem_toList_iff.mp hz); exact of_decide_eq_true this) htext
      have hl2 : text.toList.length = u.size := by rw [hsz]; simp
      rw [hsl, hs2] at S1
      exact hne (hl2.trans S1)
  · exact hxs y q
end Lst
section Apart
variable {Z : State} {h h' : Heap} {a0 : Array Value}
theorem Exa.ne_arr {a b : Addr} {C : String} {kk : Nat} {ty : FieldType} {cl : Cell} (w : (Cond.instantiable C kk).before a0 Z = true) (E : Exa Z h a C) (A : Arr Z h b cl ty) : a ≠ b := by
  rintro rfl
  obtain ⟨cell, k, h1, h2, h3, -, -⟩ := E
  obtain ⟨c0, k0, g1, g2, g3, -⟩ := Cond.instantiable_spec w
  obtain ⟨A0, ⟨-, kA, hkA, comp, hkind⟩, -⟩ := A
  have e1 : cell = cl := Option.some.inj (h1.symm.trans A0)
  have e2 : c0 = cell.cls := Option.some.inj (g1.symm.trans h2)
  subst e1
  rw [e2] at g2
  have e3 : k0 = kA := Option.some.inj (g2.symm.trans hkA)
  rw [e3, hkind] at g3
  cases g3
theorem Arr.ne_ty {a b : Addr} {ty ty' : FieldType} {cl cl' : Cell} (A : Arr Z h a cl ty) (B : Arr Z h b cl' ty') (hne : ty ≠ ty') : a ≠ b := by
  rintro rfl
  obtain ⟨A0, ⟨-, kA, hkA, comp, hkind⟩, -⟩ := A
  obtain ⟨B0, ⟨-, kB, hkB, comp', hkind'⟩, -⟩ := B
  have e1 : cl = cl' := Option.some.inj (A0.symm.trans B0)
  subst e1
  have e3 : kA = kB := Option.some.inj (hkA.symm.trans hkB)
  rw [e3, hkind'] at hkind
  cases hkind
  exact hne rfl
theorem Exa.ne_name {a b : Addr} {C D : String} (E : Exa Z h a C) (E' : Exa Z h b D) (hne : C ≠ D) : a ≠ b := by
  rintro rfl
  obtain ⟨cell, k, h1, h2, h3, -, -⟩ := E
  obtain ⟨cell', k', g1, g2, g3, -, -⟩ := E'
  have e1 : cell = cell' := Option.some.inj (h1.symm.trans g1)
  subst e1
  exact ids_ne h2 g2 hne rfl
theorem Str.keepL {r : Addr} {cs : List Int32} {ws : List Addr} (S : Str Z h r cs) (K : Keep h h' ws) (hr : r ∉ ws) (hb : ∀ b cl, Arr Z h b cl .byte → b ∉ ws) : Str Z h' r cs := by
  obtain ⟨h1, h2, ⟨b, k, h3, h4⟩, r⟩ := S
  have hbw : b ∉ ws := by obtain ⟨cl, A, -⟩ := id h4; exact hb b cl A
  exact ⟨h1.keep K, h2.keep K hr, ⟨b, k, h3.keep K hr, h4.keep K hbw⟩, r⟩
/-- a String outlives what is written into a list and its array -/
theorem Str.keep2 {r a d : Addr} {cs : List Int32} {C D ad : String} {kk : Nat} {vs : List Value} (wS : (Cond.instantiable "java/lang/String" 4).before a0 Z = true) (wA : (Cond.instantiable C kk).before a0 Z = true) (S : Str Z h r cs) (K : Keep h h' [a, d]) (E : Exa Z h a C) (hC : "java/lang/String" ≠ C) (O : OAw Z h d D ad vs) : Str Z h' r cs := by
  obtain ⟨cd, Ad, -⟩ := id O
  refine S.keepL K (fun q => ?_) (fun b cl A q => ?_)
  · rcases List.mem_cons.mp q with q | q
    · exact Exa.ne_name S.1 E hC q
    · exact Exa.ne_arr wS S.1 Ad (List.mem_singleton.mp q)
  · rcases List.mem_cons.mp q with q | q
    · exact Exa.ne_arr wA E A q.symm
    · exact Arr.ne_ty A Ad (by intro z; cases z) (List.mem_singleton.mp q)
theorem Str.keep1 {r a : Addr} {cs : List Int32} {C : String} {kk : Nat} (wA : (Cond.instantiable C kk).before a0 Z = true) (S : Str Z h r cs) (K : Keep h h' [a]) (E : Exa Z h a C) (hC : "java/lang/String" ≠ C) : Str Z h' r cs :=
  S.keepL K (fun q => Exa.ne_name S.1 E hC (List.mem_singleton.mp q)) (fun b cl A q => Exa.ne_arr wA E A (List.mem_singleton.mp q).symm)
end Apart
end Jvm.OwK
/- laws to paste: Road.backV, Road.lenW, Road.chN, Road.eqW, Road.codOf (cut by pick.py; bodies as the Statement names them) -/
namespace Jvm.Pilot.@@N@@
namespace StrChars
open Jvm Sem ClassFile Op Lib Jvm.Stand Jvm.Free.XT Jvm.Free.ALB Jvm.Free.JM Jvm.Free
open Jvm.Lib.Cold (StaticIs)
/-- a char array whose places are chars -/
def Ch (a : Addr) (A : Cell) (U : State) : Prop := Arr .char a A U ∧ Typed .char A
theorem Ch.mv {a : Addr} {A : Cell} {U U' : State} (h : Ch a A U) (hal : U.vm.Alike U'.vm) (hh : U'.heap = U.heap) : Ch a A U' := ⟨h.1.mv hal hh, h.2⟩
theorem Ch.keep {a : Addr} {A : Cell} {U U' : State} (h : Ch a A U) (hal : U.vm.Alike U'.vm) (hk : U'.heap[a]? = some A) : Ch a A U' := ⟨h.1.keep hal hk, h.2⟩
/-- what place i of a char[]'s cell holds -/
def cv (A : Cell) (i : Nat) : Int32 := match A.slots[i]? with | some (.int x) => x | _ => 0
theorem Ch.get {a : Addr} {A : Cell} {U : State} (h : Ch a A U) {i : Nat} (hi : i < A.slots.size) : A.slots[i]? = some (.int (cv A i)) := by
  have e := Array.getElem?_eq_getElem hi
  have f := h.2 i _ e
  unfold cv; rw [e]
  generalize A.slots[i] = v at f
  cases v <;> simp [fits] at f ⊢
/-- the byte that i2b leaves of a char -/
def lo8 (x : Int32) : Int32 := x.toInt8.toInt32
theorem fits_lo8 (y : Int32) : fits .byte (.int (lo8 y)) = true := by
  have h1 := y.toInt8.le_toInt
  have h2 := y.toInt8.toInt_lt
  simp only [lo8, fits, Bool.and_eq_true, decide_eq_true_eq, Int32.le_iff_toInt_le, Int8.toInt_toInt32, show (-128 : Int32).toInt = -128 from by decide, show (127 : Int32).toInt = 127 from by decide]
  omega
/-- A' is A but that each place j of lo .. hi - 1 holds f j -/
def Laid (A A' : Cell) (lo hi : Nat) (f : Nat → Value) : Prop := A'.cls = A.cls ∧ A'.vm = A.vm ∧ A'.slots.size = A.slots.size ∧ ∀ i, A'.slots[i]? = if lo ≤ i ∧ i < hi then some (f i) else A.slots[i]?
theorem Laid.zero (A : Cell) (lo : Nat) (f : Nat → Value) : Laid A A lo (lo + 0) f := ⟨rfl, rfl, rfl, fun i => by rw [if_neg (by omega)]⟩
theorem Laid.step {A Ak : Cell} {lo k : Nat} {f : Nat → Value} {v : Value} (h : Laid A Ak lo k f) (hlo : lo ≤ k) (hk : k < Ak.slots.size) (hv : v = f k) : Laid A (Ak.setSlot k v) lo (k + 1) f := by
  refine ⟨h.1, h.2.1, by simpa [Cell.setSlot] using h.2.2.1, fun i => ?_⟩
  by_cases e : k = i
  · subst e; rw [Cell.slots_setSlot_self v hk, if_pos (by omega), hv]
  · rw [Cell.slots_setSlot_ne v e, h.2.2.2 i]
    by_cases q : lo ≤ i ∧ i < k
    · rw [if_pos q, if_pos (by omega)]
    · rw [if_neg q, if_neg (by omega)]
def U16 : String := "java/lang/StringUTF16"
namespace Cmp5
def yN : MethodName := ⟨"java/lang/StringUTF16", "compress", "([CI[BII)I"⟩
abbrev yB : ByteArray := jdk_52_method_21_code
theorem d0 : decode yB 0 = .ok (.iconst 0, 1) := by decide +kernel
theorem d1 : decode yB 1 = .ok (.istore 5, 2) := by decide +kernel
theorem d3 : decode yB 3 = .ok (.iload 5, 2) := by decide +kernel
theorem d5 : decode yB 5 = .ok (.iload 4, 2) := by decide +kernel
theorem d7 : decode yB 7 = .ok (.if_icmp (.ge) 37, 3) := by decide +kernel
theorem d10 : decode yB 10 = .ok (.aload_n 0, 1) := by decide +kernel
theorem d11 : decode yB 11 = .ok (.iload_n 1, 1) := by decide +kernel
theorem d12 : decode yB 12 = .ok (.caload, 1) := by decide +kernel
theorem d13 : decode yB 13 = .ok (.istore 6, 2) := by decide +kernel
theorem d15 : decode yB 15 = .ok (.iload 6, 2) := by decide +kernel
theorem d17 : decode yB 17 = .ok (.sipush 255, 3) := by decide +kernel
theorem d20 : decode yB 20 = .ok (.if_icmp (.le) 6, 3) := by decide +kernel
theorem d26 : decode yB 26 = .ok (.aload_n 2, 1) := by decide +kernel
theorem d27 : decode yB 27 = .ok (.iload_n 3, 1) := by decide +kernel
theorem d28 : decode yB 28 = .ok (.iload 6, 2) := by decide +kernel
theorem d30 : decode yB 30 = .ok (.i2b, 1) := by decide +kernel
theorem d31 : decode yB 31 = .ok (.bastore, 1) := by decide +kernel
theorem d32 : decode yB 32 = .ok (.iinc 1 1, 3) := by decide +kernel
theorem d35 : decode yB 35 = .ok (.iinc 3 1, 3) := by decide +kernel
theorem d38 : decode yB 38 = .ok (.iinc 5 1, 3) := by decide +kernel
theorem d41 : decode yB 41 = .ok (.goto (-38), 3) := by decide +kernel
theorem d44 : decode yB 44 = .ok (.iload 4, 2) := by decide +kernel
theorem d46 : decode yB 46 = .ok (.ireturn, 1) := by decide +kernel
def site : List Cond := []
def tab : Cond := tabOf yN yB 7 (some .int) site
def P (b : Addr) (A : Cell) (d : Addr) (B : Cell) (o q len : Nat) (args : Array Value) (s : State) : Prop := args = #[.ref b, .int (Int32.ofNat o), .ref d, .int (Int32.ofNat q), .int (Int32.ofNat len)] ∧ Ch b A s ∧ Arr .byte d B s ∧ b ≠ d ∧ o + len ≤ A.slots.size ∧ q + len ≤ B.slots.size ∧ ∀ i, i < len → ¬ 255 < cv A (o + i)
def E (b : Addr) (A : Cell) (d : Addr) (B : Cell) (o q len : Nat) (r : Option Value) (s u : State) : Prop := r = some (.int (Int32.ofNat len)) ∧ ∃ B', Put d B' s u ∧ Laid B B' q (q + len) (fun j => Value.int (lo8 (cv A (o + (j - q)))))
/-- no char of the range above 255: len; the places written hold each char's low byte -/
theorem law (l : Launch) (b : Addr) (A : Cell) (d : Addr) (B : Cell) (o q len : Nat) : Law l yN 5 5 0 0 yB 7 (some .int) site (P b A d B o q len) (E b A d B o q len) (copyLocs d q len) 0 0 := by
  refine Law.of_walk (plainFor_of_name (by decide +kernel)) (by decide +kernel) (by decide +kernel) (by decide) (fun _ _ h => by rw [h.1]; rfl) (fun _ U U' hal hh h => ⟨h.1, h.2.1.mv hal hh, h.2.2.1.mv hal hh, h.2.2.2⟩) (fun r U U' V V' h1 hal h2 h => ⟨h.1, h.2.elim fun B' q => ⟨B', q.1.mv h1 h2, q.2⟩⟩) ?_
  intro p e s m args below meth c s₁ X0 hexec hbytes hml hret hlk hnm hown hh0 W hP
  obtain ⟨rfl, hA, hB, hne, l1, l2, hp⟩ := hP
  have c1 : Steps p.tables e below (s₁.setTop (entryFrame m #[.ref b, .int (Int32.ofNat o), .ref d, .int (Int32.ofNat q), .int (Int32.ofNat len)] 7)) (s₁.setTop (mkF m 0 #[.val (.ref b), .val (.int (Int32.ofNat o)), .val (.ref d), .val (.int (Int32.ofNat q)), .val (.int (Int32.ofNat len)), .unset, .unset] [])) := entry rfl
  have hA0 := hA.1.mv X0.warmed.alike hh0
  have hB0 := hB.mv X0.warmed.alike hh0
  have a31 := hA.1.2.2.2
  have c2 : Steps p.tables e below (s₁.setTop (entryFrame m #[.ref b, .int (Int32.ofNat o), .ref d, .int (Int32.ofNat q), .int (Int32.ofNat len)] 7)) (s₁.setTop (mkF m 3 #[.val (.ref b), .val (.int (Int32.ofNat o)), .val (.ref d), .val (.int (Int32.ofNat q)), .val (.int (Int32.ofNat len)), .val (.int 0), .unset] [])) := c1.trans (by
    refine iconstV X0.here hexec rfl 0 (hb hbytes d0) (by decide) ?_
    refine XS.istore X0.here hexec rfl (hb hbytes d1) rfl rfl ?_
    exact Steps.refl _)
  have loop : ∀ (r i : Nat), i + r = len → ∀ (z : Slot), (z = .unset ∨ ∃ w, z = .val w ∧ w.category = 1) → ∀ (Tl : State) (Bk : Cell), Stand p l e { frames := 0, locals := 0, cells := 0, slots := 0 } s m #[.ref b, .int (Int32.ofNat o), .ref d, .int (Int32.ofNat q), .int (Int32.ofNat len)] below meth c Tl ([] ++ copyLocs d q i) 0 0 → Put d Bk s₁ Tl → Laid B Bk q (q + i) (fun j => Value.int (lo8 (cv A (o + (j - q))))) →
      Steps p.tables e below (s₁.setTop (entryFrame m #[.ref b, .int (Int32.ofNat o), .ref d, .int (Int32.ofNat q), .int (Int32.ofNat len)] 7)) (Tl.setTop (mkF m 3 #[.val (.ref b), .val (.int (Int32.ofNat (o + i))), .val (.ref d), .val (.int (Int32.ofNat (q + i))), .val (.int (Int32.ofNat len)), .val (.int (Int32.ofNat i)), z] [])) → ∃ (T' : State) (B' : Cell) (z' : Slot), Stand p l e { frames := 0, locals := 0, cells := 0, slots := 0 } s m #[.ref b, .int (Int32.ofNat o), .ref d, .int (Int32.ofNat q), .int (Int32.ofNat len)] below meth c T' ([] ++ copyLocs d q len) 0 0 ∧ Put d B' s₁ T' ∧ Laid B B' q (q + len) (fun j => Value.int (lo8 (cv A (o + (j - q))))) ∧
      Steps p.tables e below (s₁.setTop (entryFrame m #[.ref b, .int (Int32.ofNat o), .ref d, .int (Int32.ofNat q), .int (Int32.ofNat len)] 7)) (T'.setTop (mkF m 3 #[.val (.ref b), .val (.int (Int32.ofNat (o + len))), .val (.ref d), .val (.int (Int32.ofNat (q + len))), .val (.int (Int32.ofNat len)), .val (.int (Int32.ofNat len)), z'] [])) := by
    intro r
    induction r with
    | zero =>
      intro i hi z hz Tl Bk Xl pl fl cl
      have hil : i = len := by omega
      rw [hil] at Xl fl cl
      exact ⟨Tl, Bk, z, Xl, pl, fl, cl⟩
    | succ r ih =>
      intro i hi z hz Tl Bk Xl pl fl cl
      have all := X0.warmed.alike.symm.trans Xl.warmed.alike
      have hAl := hA0.keep all (pl.other hne hA0.1)
      have hBk := hB0.like all pl.1 fl.1 fl.2.1 fl.2.2.1
      have hlt : q + i < Bk.slots.size := by rw [fl.2.2.1]; omega
      have c3 : Steps p.tables e below (s₁.setTop (entryFrame m #[.ref b, .int (Int32.ofNat o), .ref d, .int (Int32.ofNat q), .int (Int32.ofNat len)] 7)) (Tl.setTop (mkF m 12 #[.val (.ref b), .val (.int (Int32.ofNat (o + i))), .val (.ref d), .val (.int (Int32.ofNat (q + i))), .val (.int (Int32.ofNat len)), .val (.int (Int32.ofNat i)), z] [.int (Int32.ofNat (o + i)), .ref b])) := cl.trans (by
        refine XS.iload Xl.here hexec rfl (hb hbytes d3) rfl ?_
        refine XS.iload Xl.here hexec rfl (hb hbytes d5) rfl ?_
        refine XS.icmpNo Xl.here hexec rfl (hb hbytes d7) rfl (ii_ge_f (lt32 (by omega) (by omega))) ?_
        refine XS.aloadN Xl.here hexec rfl (hb hbytes d10) rfl rfl ?_
        refine XS.iloadN Xl.here hexec rfl (hb hbytes d11) rfl ?_
        exact Steps.refl _)
      have c4 : Steps p.tables e below (s₁.setTop (entryFrame m #[.ref b, .int (Int32.ofNat o), .ref d, .int (Int32.ofNat q), .int (Int32.ofNat len)] 7)) (Tl.setTop (mkF m 13 #[.val (.ref b), .val (.int (Int32.ofNat (o + i))), .val (.ref d), .val (.int (Int32.ofNat (q + i))), .val (.int (Int32.ofNat len)), .val (.int (Int32.ofNat i)), z] [.int (cv A (o + i))])) := c3.trans (by
        refine Xl.aget hexec hAl rfl (hA.get (i := o + i) (by omega)) rfl rfl (hb hbytes d12) ?_
        exact Steps.refl _)
      have c5 : Steps p.tables e below (s₁.setTop (entryFrame m #[.ref b, .int (Int32.ofNat o), .ref d, .int (Int32.ofNat q), .int (Int32.ofNat len)] 7)) (Tl.setTop (mkF m 15 #[.val (.ref b), .val (.int (Int32.ofNat (o + i))), .val (.ref d), .val (.int (Int32.ofNat (q + i))), .val (.int (Int32.ofNat len)), .val (.int (Int32.ofNat i)), .val (.int (cv A (o + i)))] [])) := c4.trans (by
        refine XS.istoreS Xl.here hexec rfl (hb hbytes d13) rfl rfl hz ?_
        exact Steps.refl _)
      have c6 : Steps p.tables e below (s₁.setTop (entryFrame m #[.ref b, .int (Int32.ofNat o), .ref d, .int (Int32.ofNat q), .int (Int32.ofNat len)] 7)) (Tl.setTop (mkF m 31 #[.val (.ref b), .val (.int (Int32.ofNat (o + i))), .val (.ref d), .val (.int (Int32.ofNat (q + i))), .val (.int (Int32.ofNat len)), .val (.int (Int32.ofNat i)), .val (.int (cv A (o + i)))] [.int (lo8 (cv A (o + i))), .int (Int32.ofNat (q + i)), .ref d])) := c5.trans (by
        refine XS.iload Xl.here hexec rfl (hb hbytes d15) rfl ?_
        refine sipushV Xl.here hexec rfl 255 (hb hbytes d17) (by decide) ?_
        refine XS.icmpYes Xl.here hexec rfl (pc0 := 20) rfl (hb hbytes d20) rfl (ii_le_t (hp i (by omega))) (by decide) rfl ?_
        refine XS.aloadN Xl.here hexec rfl (hb hbytes d26) rfl rfl ?_
        refine XS.iloadN Xl.here hexec rfl (hb hbytes d27) rfl ?_
        refine XS.iload Xl.here hexec rfl (hb hbytes d28) rfl ?_
        refine i2b Xl.here hexec rfl (hb hbytes d30) rfl ?_
        exact Steps.refl _)
      obtain ⟨T7, X7, p7, st7⟩ := Xl.aput hexec hBk rfl hlt rfl (fits_lo8 (cv A (o + i))) (g := (mkF m 31 #[.val (.ref b), .val (.int (Int32.ofNat (o + i))), .val (.ref d), .val (.int (Int32.ofNat (q + i))), .val (.int (Int32.ofNat len)), .val (.int (Int32.ofNat i)), .val (.int (cv A (o + i)))] [.int (lo8 (cv A (o + i))), .int (Int32.ofNat (q + i)), .ref d])) rfl (rest := []) rfl (hb hbytes d31)
      have c8 : Steps p.tables e below (s₁.setTop (entryFrame m #[.ref b, .int (Int32.ofNat o), .ref d, .int (Int32.ofNat q), .int (Int32.ofNat len)] 7)) (T7.setTop (mkF m 32 #[.val (.ref b), .val (.int (Int32.ofNat (o + i))), .val (.ref d), .val (.int (Int32.ofNat (q + i))), .val (.int (Int32.ofNat len)), .val (.int (Int32.ofNat i)), .val (.int (cv A (o + i)))] [])) := c6.trans (st7 _ (Steps.refl _))
      have c9 : Steps p.tables e below (s₁.setTop (entryFrame m #[.ref b, .int (Int32.ofNat o), .ref d, .int (Int32.ofNat q), .int (Int32.ofNat len)] 7)) (T7.setTop (mkF m 3 #[.val (.ref b), .val (.int (Int32.ofNat (o + i) + 1)), .val (.ref d), .val (.int (Int32.ofNat (q + i) + 1)), .val (.int (Int32.ofNat len)), .val (.int (Int32.ofNat i + 1)), .val (.int (cv A (o + i)))] [])) := c8.trans (by
        refine iincV X7.here hexec rfl 1 (hb hbytes d32) (by decide) rfl rfl ?_
        refine iincV X7.here hexec rfl 1 (hb hbytes d35) (by decide) rfl rfl ?_
        refine iincV X7.here hexec rfl 1 (hb hbytes d38) (by decide) rfl rfl ?_
        refine XS.goto X7.here hexec rfl (pc0 := 41) rfl (hb hbytes d41) (by decide) rfl ?_
        exact Steps.refl _)
      have c10 : Steps p.tables e below (s₁.setTop (entryFrame m #[.ref b, .int (Int32.ofNat o), .ref d, .int (Int32.ofNat q), .int (Int32.ofNat len)] 7)) (T7.setTop (mkF m 3 #[.val (.ref b), .val (.int (Int32.ofNat (o + (i + 1)))), .val (.ref d), .val (.int (Int32.ofNat (q + (i + 1)))), .val (.int (Int32.ofNat len)), .val (.int (Int32.ofNat (i + 1))), .val (.int (cv A (o + i)))] [])) := by
        have := c9
        rw [succ32, succ32, succ32] at this
        exact this
      exact ih (i + 1) (by omega) _ (Or.inr ⟨_, rfl, rfl⟩) T7 _ (by rw [copyLocs_step, ← List.append_assoc]; exact X7) (pl.trans p7) (fl.step (by omega) hlt (by simp)) c10
  obtain ⟨T9, B9, z9, X9, p9, f9, g9⟩ := loop len 0 (by omega) .unset (Or.inl rfl) s₁ B (by simpa [copyLocs] using X0) ⟨hB0.1, fun _ _ => rfl, rfl⟩ (Laid.zero _ _ _) c2
  have c11 : Steps p.tables e below (s₁.setTop (entryFrame m #[.ref b, .int (Int32.ofNat o), .ref d, .int (Int32.ofNat q), .int (Int32.ofNat len)] 7)) (T9.setTop (mkF m 46 #[.val (.ref b), .val (.int (Int32.ofNat (o + len))), .val (.ref d), .val (.int (Int32.ofNat (q + len))), .val (.int (Int32.ofNat len)), .val (.int (Int32.ofNat len)), z9] [.int (Int32.ofNat len)])) := g9.trans (by
    refine XS.iload X9.here hexec rfl (hb hbytes d3) rfl ?_
    refine XS.iload X9.here hexec rfl (hb hbytes d5) rfl ?_
    refine XS.icmpYes X9.here hexec rfl (pc0 := 7) rfl (hb hbytes d7) rfl (ii_ge_t (nlt32 (by omega) (Nat.le_refl _))) (by decide) rfl ?_
    refine XS.iload X9.here hexec rfl (hb hbytes d44) rfl ?_
    exact Steps.refl _)
  exact ⟨T9, some (.int (Int32.ofNat len)), _, _, _, X9, by simp, rfl, rfl, (fun h => by cases h), ⟨rfl, B9, p9.from hh0, f9⟩, fun fs hl => c11.trans (X9.ireturnOut hexec hret rfl (Or.inl rfl) (hb hbytes d46) hl)⟩
end Cmp5
namespace Cmp3
def yN : MethodName := ⟨"java/lang/StringUTF16", "compress", "([CII)[B"⟩
abbrev yB : ByteArray := jdk_52_method_16_code
theorem d0 : decode yB 0 = .ok (.iload_n 2, 1) := by decide +kernel
theorem d1 : decode yB 1 = .ok (.newarray .byte, 2) := by decide +kernel
theorem d3 : decode yB 3 = .ok (.astore_n 3, 1) := by decide +kernel
theorem d4 : decode yB 4 = .ok (.aload_n 0, 1) := by decide +kernel
theorem d5 : decode yB 5 = .ok (.iload_n 1, 1) := by decide +kernel
theorem d6 : decode yB 6 = .ok (.aload_n 3, 1) := by decide +kernel
theorem d7 : decode yB 7 = .ok (.iconst 0, 1) := by decide +kernel
theorem d8 : decode yB 8 = .ok (.iload_n 2, 1) := by decide +kernel
theorem d9 : decode yB 9 = .ok (.invokestatic 115, 3) := by decide +kernel
theorem d12 : decode yB 12 = .ok (.istore 4, 2) := by decide +kernel
theorem d14 : decode yB 14 = .ok (.iload 4, 2) := by decide +kernel
theorem d16 : decode yB 16 = .ok (.iload_n 2, 1) := by decide +kernel
theorem d17 : decode yB 17 = .ok (.if_icmp (.eq) 40, 3) := by decide +kernel
theorem d57 : decode yB 57 = .ok (.aload_n 3, 1) := by decide +kernel
theorem d58 : decode yB 58 = .ok (.areturn, 1) := by decide +kernel
def site : List Cond := [.arrayClass .byte, Cmp5.tab] ++ staticW U16 115 Cmp5.yN
def tab : Cond := tabOf yN yB 6 (some (.array .byte)) site
def P (b : Addr) (A : Cell) (o len : Nat) (args : Array Value) (s : State) : Prop := args = #[.ref b, .int (Int32.ofNat o), .int (Int32.ofNat len)] ∧ Ch b A s ∧ o + len ≤ A.slots.size ∧ len ≤ 536870912 ∧ ∀ i, i < len → ¬ 255 < cv A (o + i)
def E (b : Addr) (A : Cell) (o len : Nat) (r : Option Value) (s u : State) : Prop := NewArr .byte "[B" len (fun j => .int (lo8 (cv A (o + j)))) r s u ∧ u.heap.size = s.heap.size + 1
/-- no char of the range above 255: a new byte[] of their low bytes -/
theorem law (l : Launch) (b : Addr) (A : Cell) (o len : Nat) : Law l yN 3 3 1 18 yB 6 (some (.array .byte)) site (P b A o len) (E b A o len) [] 1 len := by
  refine Law.of_walk (plainFor_of_name (by decide +kernel)) (by decide +kernel) (by decide +kernel) (by decide) (fun _ _ h => by rw [h.1]; rfl) (fun _ U U' hal hh h => ⟨h.1, h.2.1.mv hal hh, h.2.2⟩) (fun r U U' V V' h1 hal h2 h => ⟨NewArr.mv r U U' V V' h1 hal h2 h.1, by rw [h1, h2]; exact h.2⟩) ?_
  intro p e s m args below meth c s₁ X0 hexec hbytes hml hret hlk hnm hown hh0 W hP
  obtain ⟨rfl, hA, l1, l2, hp⟩ := hP
  have a31 := hA.1.2.2.2
  have c1 : Steps p.tables e below (s₁.setTop (entryFrame m #[.ref b, .int (Int32.ofNat o), .int (Int32.ofNat len)] 6)) (s₁.setTop (mkF m 0 #[.val (.ref b), .val (.int (Int32.ofNat o)), .val (.int (Int32.ofNat len)), .unset, .unset, .unset] [])) := entry rfl
  have c2 : Steps p.tables e below (s₁.setTop (entryFrame m #[.ref b, .int (Int32.ofNat o), .int (Int32.ofNat len)] 6)) (s₁.setTop (mkF m 1 #[.val (.ref b), .val (.int (Int32.ofNat o)), .val (.int (Int32.ofNat len)), .unset, .unset, .unset] [.int (Int32.ofNat len)])) := c1.trans (by
    refine XS.iloadN X0.here hexec rfl (hb hbytes d0) rfl ?_
    exact Steps.refl _)
  obtain ⟨T3, B3, X3, ba3, bs3, bv3, bh3, bf3, st3⟩ := X0.anew hexec (atype := .byte) (wk W (.arrayClass .byte)) rfl (by show len * 1 ≤ _; omega) (by omega) (g := (mkF m 1 #[.val (.ref b), .val (.int (Int32.ofNat o)), .val (.int (Int32.ofNat len)), .unset, .unset, .unset] [.int (Int32.ofNat len)])) rfl (hb hbytes d1) (rest := []) rfl (Nat.le_refl _) (by show 0 + len ≤ len; omega)
  rw [hh0] at ba3 st3
  have kp3 : XT.Kept s T3 := (XT.Kept.of_eq hh0).push bh3
  have hA3 := hA.keep X3.warmed.alike (kp3 _ _ hA.1.1)
  have hne : b ≠ s.heap.size := hA.1.ne
  have c4 : Steps p.tables e below (s₁.setTop (entryFrame m #[.ref b, .int (Int32.ofNat o), .int (Int32.ofNat len)] 6)) (T3.setTop (mkF m 3 #[.val (.ref b), .val (.int (Int32.ofNat o)), .val (.int (Int32.ofNat len)), .unset, .unset, .unset] [.ref s.heap.size])) := c2.trans (st3 _ (Steps.refl _))
  have c5 : Steps p.tables e below (s₁.setTop (entryFrame m #[.ref b, .int (Int32.ofNat o), .int (Int32.ofNat len)] 6)) (T3.setTop (mkF m 9 #[.val (.ref b), .val (.int (Int32.ofNat o)), .val (.int (Int32.ofNat len)), .val (.ref s.heap.size), .unset, .unset] [.int (Int32.ofNat len), .int 0, .ref s.heap.size, .int (Int32.ofNat o), .ref b])) := c4.trans (by
    refine XS.astoreN X3.here hexec rfl (hb hbytes d3) rfl rfl rfl ?_
    refine XS.aloadN X3.here hexec rfl (hb hbytes d4) rfl rfl ?_
    refine XS.iloadN X3.here hexec rfl (hb hbytes d5) rfl ?_
    refine XS.aloadN X3.here hexec rfl (hb hbytes d6) rfl rfl ?_
    refine iconstV X3.here hexec rfl 0 (hb hbytes d7) (by decide) ?_
    refine XS.iloadN X3.here hexec rfl (hb hbytes d8) rfl ?_
    exact Steps.refl _)
  obtain ⟨v6, T6, X6, E6, g6⟩ := X3.callS hexec (Cmp5.law l b A s.heap.size B3 o 0 len) hown (wks W (staticW U16 115 Cmp5.yN)) (wk W Cmp5.tab) (W := 0) (Nat.le_of_ble_eq_true rfl) (Nat.le_of_ble_eq_true rfl) (Nat.le_refl _) (by show 0 + len + 0 ≤ len; omega) (g := (mkF m 9 #[.val (.ref b), .val (.int (Int32.ofNat o)), .val (.int (Int32.ofNat len)), .val (.ref s.heap.size), .unset, .unset] [.int (Int32.ofNat len), .int (Int32.ofNat 0), .ref s.heap.size, .int (Int32.ofNat o), .ref b])) rfl (by rw [hml]; rfl) c5 (argsL := [.ref b, .int (Int32.ofNat o), .ref s.heap.size, .int (Int32.ofNat 0), .int (Int32.ofNat len)]) (rest := []) rfl rfl (by show 2 * 0 + 0 ≤ _; decide) (hb hbytes d9) (⟨rfl, hA3, ba3, hne, l1, by rw [bs3]; simp, hp⟩)
  obtain ⟨rfl, B6, p6, f6⟩ := E6
  have c7 : Steps p.tables e below (s₁.setTop (entryFrame m #[.ref b, .int (Int32.ofNat o), .int (Int32.ofNat len)] 6)) (T6.setTop (mkF m 12 #[.val (.ref b), .val (.int (Int32.ofNat o)), .val (.int (Int32.ofNat len)), .val (.ref s.heap.size), .unset, .unset] [.int (Int32.ofNat len)])) := g6
  have c8 : Steps p.tables e below (s₁.setTop (entryFrame m #[.ref b, .int (Int32.ofNat o), .int (Int32.ofNat len)] 6)) (T6.setTop (mkF m 58 #[.val (.ref b), .val (.int (Int32.ofNat o)), .val (.int (Int32.ofNat len)), .val (.ref s.heap.size), .val (.int (Int32.ofNat len)), .unset] [.ref s.heap.size])) := c7.trans (by
    refine XS.istore X6.here hexec rfl (hb hbytes d12) rfl rfl ?_
    refine XS.iload X6.here hexec rfl (hb hbytes d14) rfl ?_
    refine XS.iloadN X6.here hexec rfl (hb hbytes d16) rfl ?_
    refine XS.icmpYes X6.here hexec rfl (pc0 := 17) rfl (hb hbytes d17) rfl (ii_eq_t rfl) (by decide) rfl ?_
    refine XS.aloadN X6.here hexec rfl (hb hbytes d57) rfl rfl ?_
    exact Steps.refl _)
  have X8 := X6.wide (L' := []) (cells' := 1) (slots' := len) (fun x hx hlt => by
    simp only [List.nil_append, copyLocs, List.mem_map, List.mem_range] at hx
    obtain ⟨i, -, rfl⟩ := hx
    exact absurd hlt (Nat.lt_irrefl _)) (Nat.le_refl _) (by omega)
  exact ⟨T6, some (.ref s.heap.size), _, _, _, X8, rfl, rfl, rfl, (fun h => by cases h), ⟨⟨rfl, B6, ba3.like (X3.warmed.alike.symm.trans X6.warmed.alike) p6.1 f6.1 f6.2.1 f6.2.2.1, f6.2.1.trans bv3, by rw [X6.warmed.alike.findClass, f6.1]; exact bf3, by rw [f6.2.2.1, bs3]; simp, fun j hj => by rw [f6.2.2.2 j, if_pos (by omega)]; rfl, kp3.put p6 (Nat.le_refl _)⟩, by rw [p6.2.2, bh3, hh0]; simp⟩, fun fs hl => c8.trans (X8.areturnOut hexec rfl hret rfl (hb hbytes d58) hl)⟩
end Cmp3
namespace CodL
def yN : MethodName := ⟨"java/lang/StringUTF16", "coderFromArrayLen", "([BI)B"⟩
abbrev yB : ByteArray := jdk_52_method_15_code
theorem d0 : decode yB 0 = .ok (.iload_n 1, 1) := by decide +kernel
theorem d1 : decode yB 1 = .ok (.aload_n 0, 1) := by decide +kernel
theorem d2 : decode yB 2 = .ok (.arraylength, 1) := by decide +kernel
theorem d3 : decode yB 3 = .ok (.isub, 1) := by decide +kernel
theorem d4 : decode yB 4 = .ok (.bipush 31, 2) := by decide +kernel
theorem d6 : decode yB 6 = .ok (.iushr, 1) := by decide +kernel
theorem d7 : decode yB 7 = .ok (.i2b, 1) := by decide +kernel
theorem d8 : decode yB 8 = .ok (.ireturn, 1) := by decide +kernel
def site : List Cond := []
def tab : Cond := tabOf yN yB 2 (some .byte) site
def P (d : Addr) (B : Cell) (args : Array Value) (s : State) : Prop := args = #[.ref d, .int (Int32.ofNat B.slots.size)] ∧ Arr .byte d B s
def E (r : Option Value) (s u : State) : Prop := XT.PureE (some (.int 0)) r s u
/-- an array as long as the number of chars: LATIN1 -/
theorem law (l : Launch) (d : Addr) (B : Cell) : Law l yN 2 2 0 0 yB 2 (some .byte) site (P d B) E [] 0 0 := by
  refine Law.of_walk (plainFor_of_name (by decide +kernel)) (by decide +kernel) (by decide +kernel) (by decide) (fun _ _ h => by rw [h.1]; rfl) (fun _ U U' hal hh h => ⟨h.1, h.2.mv hal hh⟩) (fun r U U' V V' h1 hal h2 h => XT.PureE.mv r U U' V V' h1 hal h2 h) ?_
  intro p e s m args below meth c s₁ X0 hexec hbytes hml hret hlk hnm hown hh0 W hP
  obtain ⟨rfl, hB⟩ := hP
  have hB0 := hB.mv X0.warmed.alike hh0
  have c1 : Steps p.tables e below (s₁.setTop (entryFrame m #[.ref d, .int (Int32.ofNat B.slots.size)] 2)) (s₁.setTop (mkF m 0 #[.val (.ref d), .val (.int (Int32.ofNat B.slots.size))] [])) := entry rfl
  have c2 : Steps p.tables e below (s₁.setTop (entryFrame m #[.ref d, .int (Int32.ofNat B.slots.size)] 2)) (s₁.setTop (mkF m 2 #[.val (.ref d), .val (.int (Int32.ofNat B.slots.size))] [.ref d, .int (Int32.ofNat B.slots.size)])) := c1.trans (by
    refine XS.iloadN X0.here hexec rfl (hb hbytes d0) rfl ?_
    refine XS.aloadN X0.here hexec rfl (hb hbytes d1) rfl rfl ?_
    exact Steps.refl _)
  have c3 : Steps p.tables e below (s₁.setTop (entryFrame m #[.ref d, .int (Int32.ofNat B.slots.size)] 2)) (s₁.setTop (mkF m 8 #[.val (.ref d), .val (.int (Int32.ofNat B.slots.size))] [.int (lo8 (ushr (Int32.ofNat B.slots.size - Int32.ofNat B.slots.size) 31))])) := c2.trans (by
    refine X0.alen hexec hB0 rfl rfl (hb hbytes d2) ?_
    refine XS.isub X0.here hexec rfl (hb hbytes d3) rfl ?_
    refine bipushV X0.here hexec rfl 31 (hb hbytes d4) (by decide) ?_
    refine iushr X0.here hexec rfl (hb hbytes d6) rfl ?_
    refine i2b X0.here hexec rfl (hb hbytes d7) rfl ?_
    exact Steps.refl _)
  have e0 : lo8 (ushr (Int32.ofNat B.slots.size - Int32.ofNat B.slots.size) 31) = 0 := by rw [Int32.sub_self]; decide
  rw [e0] at c3
  exact ⟨s₁, some (.int 0), _, _, _, X0, rfl, rfl, rfl, (fun h => by cases h), ⟨rfl, hh0⟩, fun fs hl => c3.trans (X0.ireturnOut hexec hret rfl (Or.inr (Or.inr (Or.inl rfl))) (hb hbytes d8) hl)⟩
end CodL
/-- the String at a is Latin-1 over a new byte[] (the heap's one new cell): the low bytes of the len chars of A from o on; every cell but a is kept -/
def Got (a : Addr) (D : Cell) (fV fC : Field) (A : Cell) (o len : Nat) (r : Option Value) (s u : State) : Prop := r = none ∧ ∃ D' V : Cell, Blank "java/lang/String" a D' u ∧ Same D D' [fV.slot, fC.slot] ∧ D'.slots[fV.slot]? = some (.ref s.heap.size) ∧ D'.slots[fC.slot]? = some (.int 0) ∧ Arr .byte s.heap.size V u ∧ V.vm = .none ∧ u.vm.findClass "[B" = some V.cls ∧ V.slots.size = len ∧ (∀ j, j < len → V.slots[j]? = some (.int (lo8 (cv A (o + j))))) ∧ (∀ (y : Addr) (c : Cell), y ≠ a → s.heap[y]? = some c → u.heap[y]? = some c) ∧ u.heap.size = s.heap.size + 1
theorem Got.mv {a : Addr} {D A : Cell} {fV fC : Field} {o len : Nat} : ∀ r (U U' V V' : State), U'.heap = U.heap → V.vm.Alike V'.vm → V'.heap = V.heap → Got a D fV fC A o len r U V → Got a D fV fC A o len r U' V' :=
  fun r U U' V V' h1 hal h2 ⟨e0, D', X, a1, a2, a3, a4, a5, a6, a7, a8, a9, a10, a11⟩ => ⟨e0, D', X, a1.mv hal h2, a2, by rw [h1]; exact a3, a4, by rw [h1]; exact a5.mv hal h2, a6, by rw [hal.findClass]; exact a7, a8, a9, by rw [h1, h2]; exact a10, by rw [h1, h2]; exact a11⟩
namespace New4
def yN : MethodName := ⟨"java/lang/String", "<init>", "([CIILjava/lang/Void;)V"⟩
abbrev yB : ByteArray := jdk_42_method_149_code
theorem d0 : decode yB 0 = .ok (.aload_n 0, 1) := by decide +kernel
theorem d1 : decode yB 1 = .ok (.invokespecial 1, 3) := by decide +kernel
theorem d4 : decode yB 4 = .ok (.iload_n 3, 1) := by decide +kernel
theorem d5 : decode yB 5 = .ok (.ifCond (.ne) 22, 3) := by decide +kernel
theorem d27 : decode yB 27 = .ok (.getstatic 38, 3) := by decide +kernel
theorem d30 : decode yB 30 = .ok (.ifCond (.eq) 28, 3) := by decide +kernel
theorem d33 : decode yB 33 = .ok (.aload_n 1, 1) := by decide +kernel
theorem d34 : decode yB 34 = .ok (.iload_n 2, 1) := by decide +kernel
theorem d35 : decode yB 35 = .ok (.iload_n 3, 1) := by decide +kernel
theorem d36 : decode yB 36 = .ok (.invokestatic 177, 3) := by decide +kernel
theorem d39 : decode yB 39 = .ok (.astore 5, 2) := by decide +kernel
theorem d41 : decode yB 41 = .ok (.aload_n 0, 1) := by decide +kernel
theorem d42 : decode yB 42 = .ok (.aload 5, 2) := by decide +kernel
theorem d44 : decode yB 44 = .ok (.iload_n 3, 1) := by decide +kernel
theorem d45 : decode yB 45 = .ok (.invokestatic 47, 3) := by decide +kernel
theorem d48 : decode yB 48 = .ok (.putfield 15, 3) := by decide +kernel
theorem d51 : decode yB 51 = .ok (.aload_n 0, 1) := by decide +kernel
theorem d52 : decode yB 52 = .ok (.aload 5, 2) := by decide +kernel
theorem d54 : decode yB 54 = .ok (.putfield 9, 3) := by decide +kernel
theorem d57 : decode yB 57 = .ok (.return_, 1) := by decide +kernel
def site : List Cond := [.fieldLink "java/lang/String" 38 "java/lang/String" "COMPACT_STRINGS" "Z", Cmp3.tab, CodL.tab, .laysFinal "java/lang/String" "java/lang/String" "value" "[B", .fieldLink "java/lang/String" 9 "java/lang/String" "value" "[B", .laysFinal "java/lang/String" "java/lang/String" "coder" "B", .fieldLink "java/lang/String" 15 "java/lang/String" "coder" "B"] ++ objW "java/lang/String" 1 ++ staticW "java/lang/String" 177 Cmp3.yN ++ staticW "java/lang/String" 47 CodL.yN
def tab : Cond := tabOf yN yB 6 none site
def P (a : Addr) (D : Cell) (fV fC : Field) (b : Addr) (A : Cell) (z : Int32) (o len : Nat) (args : Array Value) (s : State) : Prop := args = #[.ref a, .ref b, .int (Int32.ofNat o), .int (Int32.ofNat len), .null] ∧ Blank "java/lang/String" a D s ∧ Found "java/lang/String" "value" "[B" fV s ∧ Found "java/lang/String" "coder" "B" fC s ∧ Ch b A s ∧ StaticIs s "java/lang/String" "COMPACT_STRINGS" "Z" (.int z) ∧ ¬ z = 0 ∧ 0 < len ∧ o + len ≤ A.slots.size ∧ len ≤ 536870912 ∧ ∀ i, i < len → ¬ 255 < cv A (o + i)
def E (a : Addr) (D : Cell) (fV fC : Field) (A : Cell) (o len : Nat) (r : Option Value) (s u : State) : Prop := Got a D fV fC A o len r s u
/-- len > 0, no char of the range above 255: a Latin-1 String of their low bytes -/
theorem law (l : Launch) (a : Addr) (D : Cell) (fV fC : Field) (b : Addr) (A : Cell) (z : Int32) (o len : Nat) : Law l yN 5 4 2 35 yB 6 none site (P a D fV fC b A z o len) (E a D fV fC A o len) [⟨a, fC.slot⟩, ⟨a, fV.slot⟩] 1 len := by
  refine Law.of_walk (plainFor_of_name (by decide +kernel)) (by decide +kernel) (by decide +kernel) (by decide) (fun _ _ h => by rw [h.1]; rfl) (fun _ U U' hal hh h => ⟨h.1, h.2.1.mv hal hh, h.2.2.1.al hal, h.2.2.2.1.al hal, h.2.2.2.2.1.mv hal hh, h.2.2.2.2.2.1.there hal hh, h.2.2.2.2.2.2⟩) (fun r U U' V V' h1 hal h2 h => Got.mv r U U' V V' h1 hal h2 h) ?_
  intro p e s m args below meth c s₁ X0 hexec hbytes hml hret hlk hnm hown hh0 W hP
  obtain ⟨rfl, hB, f1, f2, hA, s1, hz, l0, l1, l2, hp⟩ := hP
  have a31 := hA.1.2.2.2
  have c1 : Steps p.tables e below (s₁.setTop (entryFrame m #[.ref a, .ref b, .int (Int32.ofNat o), .int (Int32.ofNat len), .null] 6)) (s₁.setTop (mkF m 0 #[.val (.ref a), .val (.ref b), .val (.int (Int32.ofNat o)), .val (.int (Int32.ofNat len)), .val .null, .unset] [])) := entry rfl
  have c2 : Steps p.tables e below (s₁.setTop (entryFrame m #[.ref a, .ref b, .int (Int32.ofNat o), .int (Int32.ofNat len), .null] 6)) (s₁.setTop (mkF m 1 #[.val (.ref a), .val (.ref b), .val (.int (Int32.ofNat o)), .val (.int (Int32.ofNat len)), .val .null, .unset] [.ref a])) := c1.trans (by
    refine XS.aloadN X0.here hexec rfl (hb hbytes d0) rfl rfl ?_
    exact Steps.refl _)
  obtain ⟨T3, X3, q3, st3⟩ := X0.oinit hexec hown (wks W (objW "java/lang/String" 1)) (g := (mkF m 1 #[.val (.ref a), .val (.ref b), .val (.int (Int32.ofNat o)), .val (.int (Int32.ofNat len)), .val .null, .unset] [.ref a])) rfl (by rw [hml]; rfl) (rest := []) rfl (hb hbytes d1) (W := 0) (by show 2 * 0 + 0 ≤ _; decide) (Nat.le_of_ble_eq_true rfl) (Nat.le_of_ble_eq_true rfl)
  have hh3 := q3.trans hh0
  have c4 : Steps p.tables e below (s₁.setTop (entryFrame m #[.ref a, .ref b, .int (Int32.ofNat o), .int (Int32.ofNat len), .null] 6)) (T3.setTop (mkF m 27 #[.val (.ref a), .val (.ref b), .val (.int (Int32.ofNat o)), .val (.int (Int32.ofNat len)), .val .null, .unset] [])) := (c2.trans (st3 _ (Steps.refl _))).trans (by
    refine XS.iloadN X3.here hexec rfl (hb hbytes d4) rfl ?_
    refine XS.ifYes X3.here hexec rfl (pc0 := 5) rfl (hb hbytes d5) rfl (i0_ne_t (nz32 (by omega) l0)) (by decide) rfl ?_
    exact Steps.refl _)
  obtain ⟨T5, X5, q5, st5⟩ := X3.sget hexec hown (wk W (.fieldLink "java/lang/String" 38 "java/lang/String" "COMPACT_STRINGS" "Z")) s1 (fun _ _ h => by rw [hh3]; exact h) (g := (mkF m 27 #[.val (.ref a), .val (.ref b), .val (.int (Int32.ofNat o)), .val (.int (Int32.ofNat len)), .val .null, .unset] [])) rfl (hb hbytes d27)
  have hh5 := q5.trans hh3
  have c6 : Steps p.tables e below (s₁.setTop (entryFrame m #[.ref a, .ref b, .int (Int32.ofNat o), .int (Int32.ofNat len), .null] 6)) (T5.setTop (mkF m 30 #[.val (.ref a), .val (.ref b), .val (.int (Int32.ofNat o)), .val (.int (Int32.ofNat len)), .val .null, .unset] [.int z])) := c4.trans (st5 _ (Steps.refl _))
  have c7 : Steps p.tables e below (s₁.setTop (entryFrame m #[.ref a, .ref b, .int (Int32.ofNat o), .int (Int32.ofNat len), .null] 6)) (T5.setTop (mkF m 36 #[.val (.ref a), .val (.ref b), .val (.int (Int32.ofNat o)), .val (.int (Int32.ofNat len)), .val .null, .unset] [.int (Int32.ofNat len), .int (Int32.ofNat o), .ref b])) := c6.trans (by
    refine XS.ifNo X5.here hexec rfl (hb hbytes d30) rfl (i0_eq_f hz) ?_
    refine XS.aloadN X5.here hexec rfl (hb hbytes d33) rfl rfl ?_
    refine XS.iloadN X5.here hexec rfl (hb hbytes d34) rfl ?_
    refine XS.iloadN X5.here hexec rfl (hb hbytes d35) rfl ?_
    exact Steps.refl _)
  obtain ⟨v8, T8, X8, E8, g8⟩ := X5.callS hexec (Cmp3.law l b A o len) hown (wks W (staticW "java/lang/String" 177 Cmp3.yN)) (wk W Cmp3.tab) (W := 0) (Nat.le_of_ble_eq_true rfl) (Nat.le_of_ble_eq_true rfl) (Nat.le_refl _) (by show 0 + len ≤ len; omega) (g := (mkF m 36 #[.val (.ref a), .val (.ref b), .val (.int (Int32.ofNat o)), .val (.int (Int32.ofNat len)), .val .null, .unset] [.int (Int32.ofNat len), .int (Int32.ofNat o), .ref b])) rfl (by rw [hml]; rfl) c7 (argsL := [.ref b, .int (Int32.ofNat o), .int (Int32.ofNat len)]) (rest := []) rfl rfl (by show 2 * 0 + 0 ≤ _; decide) (hb hbytes d36) (⟨rfl, hA.mv X5.warmed.alike hh5, l1, l2, hp⟩)
  obtain ⟨e8, z8⟩ := E8
  obtain ⟨rfl, N, n1, n2, n3, n4, n5, n6⟩ := NewArr.mv _ T5 s _ _ hh5.symm (Vm.Alike.refl _) rfl e8
  rw [hh5] at z8
  have hB1 := hB.keep X8.warmed.alike (n6 _ _ hB.1)
  have hne : s.heap.size ≠ a := (Nat.ne_of_lt (Array.getElem?_eq_some_iff.mp hB.1).1).symm
  have c9 : Steps p.tables e below (s₁.setTop (entryFrame m #[.ref a, .ref b, .int (Int32.ofNat o), .int (Int32.ofNat len), .null] 6)) (T8.setTop (mkF m 39 #[.val (.ref a), .val (.ref b), .val (.int (Int32.ofNat o)), .val (.int (Int32.ofNat len)), .val .null, .unset] [.ref s.heap.size])) := g8
  have c10 : Steps p.tables e below (s₁.setTop (entryFrame m #[.ref a, .ref b, .int (Int32.ofNat o), .int (Int32.ofNat len), .null] 6)) (T8.setTop (mkF m 45 #[.val (.ref a), .val (.ref b), .val (.int (Int32.ofNat o)), .val (.int (Int32.ofNat len)), .val .null, .val (.ref s.heap.size)] [.int (Int32.ofNat N.slots.size), .ref s.heap.size, .ref a])) := by
    have hc : Steps p.tables e below (s₁.setTop (entryFrame m #[.ref a, .ref b, .int (Int32.ofNat o), .int (Int32.ofNat len), .null] 6)) (T8.setTop (mkF m 45 #[.val (.ref a), .val (.ref b), .val (.int (Int32.ofNat o)), .val (.int (Int32.ofNat len)), .val .null, .val (.ref s.heap.size)] [.int (Int32.ofNat len), .ref s.heap.size, .ref a])) := c9.trans (by
      refine XS.astore X8.here hexec rfl (hb hbytes d39) rfl rfl rfl ?_
      refine XS.aloadN X8.here hexec rfl (hb hbytes d41) rfl rfl ?_
      refine XS.aload X8.here hexec rfl (hb hbytes d42) rfl rfl ?_
      refine XS.iloadN X8.here hexec rfl (hb hbytes d44) rfl ?_
      exact Steps.refl _)
    rw [n4]; exact hc
  obtain ⟨v11, T11, X11, E11, g11⟩ := X8.callS hexec (CodL.law l s.heap.size N) hown (wks W (staticW "java/lang/String" 47 CodL.yN)) (wk W CodL.tab) (W := 1) (Nat.le_of_ble_eq_true rfl) (Nat.le_of_ble_eq_true rfl) (Nat.le_refl _) (by show 0 + len + 0 ≤ len; omega) (g := (mkF m 45 #[.val (.ref a), .val (.ref b), .val (.int (Int32.ofNat o)), .val (.int (Int32.ofNat len)), .val .null, .val (.ref s.heap.size)] [.int (Int32.ofNat N.slots.size), .ref s.heap.size, .ref a])) rfl (by rw [hml]; rfl) c10 (argsL := [.ref s.heap.size, .int (Int32.ofNat N.slots.size)]) (rest := [.ref a]) rfl rfl (by show 2 * 0 + (1 + 0) ≤ _; decide) (hb hbytes d45) (⟨rfl, n1⟩)
  obtain ⟨rfl, q11⟩ := E11
  have hB11 := hB1.mv (X8.warmed.alike.symm.trans X11.warmed.alike) q11
  have c12 : Steps p.tables e below (s₁.setTop (entryFrame m #[.ref a, .ref b, .int (Int32.ofNat o), .int (Int32.ofNat len), .null] 6)) (T11.setTop (mkF m 48 #[.val (.ref a), .val (.ref b), .val (.int (Int32.ofNat o)), .val (.int (Int32.ofNat len)), .val .null, .val (.ref s.heap.size)] [.int 0, .ref a])) := g11
  obtain ⟨T13, X13, p13, bl13, sl13, st13⟩ := X11.finit hexec hown (wk W (.fieldLink "java/lang/String" 15 "java/lang/String" "coder" "B")) (Or.inr ⟨_, (wk W (.laysFinal "java/lang/String" "java/lang/String" "coder" "B"))⟩) (Or.inl ⟨rfl, hnm⟩) f2 (Or.inl rfl) hB11 (t := .byte) (by decide +kernel) rfl (g := (mkF m 48 #[.val (.ref a), .val (.ref b), .val (.int (Int32.ofNat o)), .val (.int (Int32.ofNat len)), .val .null, .val (.ref s.heap.size)] [.int 0, .ref a])) rfl (rest := []) rfl (hb hbytes d48)
  have c14 : Steps p.tables e below (s₁.setTop (entryFrame m #[.ref a, .ref b, .int (Int32.ofNat o), .int (Int32.ofNat len), .null] 6)) (T13.setTop (mkF m 54 #[.val (.ref a), .val (.ref b), .val (.int (Int32.ofNat o)), .val (.int (Int32.ofNat len)), .val .null, .val (.ref s.heap.size)] [.ref s.heap.size, .ref a])) := (c12.trans (st13 _ (Steps.refl _))).trans (by
    refine XS.aloadN X13.here hexec rfl (hb hbytes d51) rfl rfl ?_
    refine XS.aload X13.here hexec rfl (hb hbytes d52) rfl rfl ?_
    exact Steps.refl _)
  obtain ⟨T15, X15, p15, bl15, sl15, st15⟩ := X13.finit hexec hown (wk W (.fieldLink "java/lang/String" 9 "java/lang/String" "value" "[B")) (Or.inr ⟨_, (wk W (.laysFinal "java/lang/String" "java/lang/String" "value" "[B"))⟩) (Or.inl ⟨rfl, hnm⟩) f1 (Or.inl rfl) bl13 (t := (.array .byte)) (by decide +kernel) rfl (g := (mkF m 54 #[.val (.ref a), .val (.ref b), .val (.int (Int32.ofNat o)), .val (.int (Int32.ofNat len)), .val .null, .val (.ref s.heap.size)] [.ref s.heap.size, .ref a])) rfl (rest := []) rfl (hb hbytes d54)
  have c16 : Steps p.tables e below (s₁.setTop (entryFrame m #[.ref a, .ref b, .int (Int32.ofNat o), .int (Int32.ofNat len), .null] 6)) (T15.setTop (mkF m 57 #[.val (.ref a), .val (.ref b), .val (.int (Int32.ofNat o)), .val (.int (Int32.ofNat len)), .val .null, .val (.ref s.heap.size)] [])) := c14.trans (st15 _ (Steps.refl _))
  have ap := apart (Or.inr ⟨_, (wk W (.laysFinal "java/lang/String" "java/lang/String" "value" "[B"))⟩) (Or.inr ⟨_, (wk W (.laysFinal "java/lang/String" "java/lang/String" "coder" "B"))⟩) f1 f2 (t₁ := .array .byte) (t₂ := .byte) (by decide +kernel) (by decide +kernel) (by decide)
  have al := X8.warmed.alike.symm.trans X15.warmed.alike
  have n7 : T11.heap[s.heap.size]? = some N := by rw [q11]; exact n1.1
  exact ⟨T15, none, _, _, _, X15, by simp, rfl, by omega, (fun _ => rfl), ⟨rfl, _, N, bl15, ((Same.refl D _).set _ (by simp)).set _ (by simp), sl15, (Cell.slots_setSlot_ne _ ap).trans sl13, n1.keep al (p15.other hne (p13.other hne n7)), n2, by rw [al.findClass]; exact n3, n4, n5, fun y c h1 h2 => p15.other h1 (p13.other h1 (by rw [q11]; exact n6 y c h2)), by rw [p15.2.2, p13.2.2, q11]; exact z8⟩, fun fs hl => c16.trans (X15.returnOut hexec hret (hb hbytes d57) hl)⟩
end New4
namespace New1
def yN : MethodName := ⟨"java/lang/String", "<init>", "([C)V"⟩
abbrev yB : ByteArray := jdk_42_method_3_code
theorem d0 : decode yB 0 = .ok (.aload_n 0, 1) := by decide +kernel
theorem d1 : decode yB 1 = .ok (.aload_n 1, 1) := by decide +kernel
theorem d2 : decode yB 2 = .ok (.iconst 0, 1) := by decide +kernel
theorem d3 : decode yB 3 = .ok (.aload_n 1, 1) := by decide +kernel
theorem d4 : decode yB 4 = .ok (.arraylength, 1) := by decide +kernel
theorem d5 : decode yB 5 = .ok (.aconst_null, 1) := by decide +kernel
theorem d6 : decode yB 6 = .ok (.invokespecial 27, 3) := by decide +kernel
theorem d9 : decode yB 9 = .ok (.return_, 1) := by decide +kernel
def site : List Cond := [New4.tab] ++ initW "java/lang/String" 27 New4.yN
def tab : Cond := tabOf yN yB 2 none site
def P (a : Addr) (D : Cell) (fV fC : Field) (b : Addr) (A : Cell) (z : Int32) (args : Array Value) (s : State) : Prop := args = #[.ref a, .ref b] ∧ Blank "java/lang/String" a D s ∧ Found "java/lang/String" "value" "[B" fV s ∧ Found "java/lang/String" "coder" "B" fC s ∧ Ch b A s ∧ StaticIs s "java/lang/String" "COMPACT_STRINGS" "Z" (.int z) ∧ ¬ z = 0 ∧ 0 < A.slots.size ∧ A.slots.size ≤ 536870912 ∧ ∀ i, i < A.slots.size → ¬ 255 < cv A i
def E (a : Addr) (D : Cell) (fV fC : Field) (A : Cell) (r : Option Value) (s u : State) : Prop := Got a D fV fC A 0 A.slots.size r s u
/-- new String(chars), not empty, no char above 255: a Latin-1 String of their low bytes -/
theorem law (l : Launch) (a : Addr) (D : Cell) (fV fC : Field) (b : Addr) (A : Cell) (z : Int32) : Law l yN 2 1 3 52 yB 2 none site (P a D fV fC b A z) (E a D fV fC A) [⟨a, fC.slot⟩, ⟨a, fV.slot⟩] 1 A.slots.size := by
  refine Law.of_walk (plainFor_of_name (by decide +kernel)) (by decide +kernel) (by decide +kernel) (by decide) (fun _ _ h => by rw [h.1]; rfl) (fun _ U U' hal hh h => ⟨h.1, h.2.1.mv hal hh, h.2.2.1.al hal, h.2.2.2.1.al hal, h.2.2.2.2.1.mv hal hh, h.2.2.2.2.2.1.there hal hh, h.2.2.2.2.2.2⟩) (fun r U U' V V' h1 hal h2 h => Got.mv r U U' V V' h1 hal h2 h) ?_
  intro p e s m args below meth c s₁ X0 hexec hbytes hml hret hlk hnm hown hh0 W hP
  obtain ⟨rfl, hB, f1, f2, hA, s1, hz, l0, l2, hp⟩ := hP
  have c1 : Steps p.tables e below (s₁.setTop (entryFrame m #[.ref a, .ref b] 2)) (s₁.setTop (mkF m 0 #[.val (.ref a), .val (.ref b)] [])) := entry rfl
  have c2 : Steps p.tables e below (s₁.setTop (entryFrame m #[.ref a, .ref b] 2)) (s₁.setTop (mkF m 6 #[.val (.ref a), .val (.ref b)] [.null, .int (Int32.ofNat A.slots.size), .int 0, .ref b, .ref a])) := c1.trans (by
    refine XS.aloadN X0.here hexec rfl (hb hbytes d0) rfl rfl ?_
    refine XS.aloadN X0.here hexec rfl (hb hbytes d1) rfl rfl ?_
    refine iconstV X0.here hexec rfl 0 (hb hbytes d2) (by decide) ?_
    refine XS.aloadN X0.here hexec rfl (hb hbytes d3) rfl rfl ?_
    refine X0.alen hexec (hA.1.mv X0.warmed.alike hh0) rfl rfl (hb hbytes d4) ?_
    refine XS.aconstNull X0.here hexec rfl (hb hbytes d5) ?_
    exact Steps.refl _)
  obtain ⟨v3, T3, X3, E3, g3⟩ := X0.callN hexec (New4.law l a D fV fC b A z 0 A.slots.size) rfl hown (wks W (initW "java/lang/String" 27 New4.yN)) (W New4.tab (by simp only [site, List.mem_cons, List.mem_append, true_or, or_true])) (W := 0) (Nat.le_of_ble_eq_true rfl) (Nat.le_of_ble_eq_true rfl) (Nat.le_refl _) (by show 0 + A.slots.size ≤ A.slots.size; omega) (g := (mkF m 6 #[.val (.ref a), .val (.ref b)] [.null, .int (Int32.ofNat A.slots.size), .int (Int32.ofNat 0), .ref b, .ref a])) rfl (by rw [hml]; rfl) c2 (argsL := [.ref b, .int (Int32.ofNat 0), .int (Int32.ofNat A.slots.size), .null]) (rest := []) rfl rfl (by show 2 * 0 + 0 ≤ _; decide) (hb hbytes d6) (⟨rfl, hB.mv X0.warmed.alike hh0, f1.al X0.warmed.alike, f2.al X0.warmed.alike, hA.mv X0.warmed.alike hh0, s1.there X0.warmed.alike hh0, hz, l0, by omega, l2, fun i hi => by rw [Nat.zero_add]; exact hp i hi⟩)
  have e0 := Got.mv _ s₁ s _ _ hh0.symm (Vm.Alike.refl _) rfl E3
  obtain rfl := e0.1
  have c4 : Steps p.tables e below (s₁.setTop (entryFrame m #[.ref a, .ref b] 2)) (T3.setTop (mkF m 9 #[.val (.ref a), .val (.ref b)] [])) := g3
  exact ⟨T3, none, _, _, _, X3, by simp, rfl, by omega, (fun _ => rfl), e0, fun fs hl => c4.trans (X3.returnOut hexec hret (hb hbytes d9) hl)⟩
theorem pays {l : Launch} {R : Room} {p : Program} {e : Env} {below : List Frame} {s : State} {sargs : Array Value} {len W : Nat} (a : Addr) (D : Cell) (fV fC : Field) (b : Addr) (A : Cell) (z : Int32) (htab : tab.before sargs s = true) (hfr : 4 ≤ R.frames) (hlo : W + 65 ≤ R.locals) :
    Back l R p e below s sargs yN len W (fun A₁ a₁ => A₁.cells + 1 ≤ R.cells ∧ A₁.slots + A.slots.size ≤ R.slots ∧ P a D fV fC b A z a₁ A₁.U) (fun A₁ _ v₁ B₁ => E a D fV fC A v₁ A₁.U B₁.U ∧ B₁.locs = A₁.locs ++ [⟨a, fC.slot⟩, ⟨a, fV.slot⟩] ∧ B₁.cells = A₁.cells + 1 ∧ B₁.slots = A₁.slots + A.slots.size) :=
  (law l a D fV fC b A z).pays htab hfr (by omega)
end New1
/-- the byte, read back as charAt reads it, is the char -/
theorem lo8_mask {x : Int32} (h0 : ¬ x < 0) (h1 : ¬ 255 < x) : lo8 x &&& 255 = x := by
  have t : ∀ k : Fin 256, lo8 (Int32.ofNat k.val) &&& 255 = Int32.ofNat k.val := by decide +kernel
  rw [Int32.lt_iff_toInt_lt] at h0 h1
  have e0 : (0 : Int32).toInt = 0 := rfl
  have e1 : (255 : Int32).toInt = 255 := rfl
  obtain ⟨k, hk⟩ : ∃ k : Nat, x.toInt = k := ⟨x.toInt.toNat, by omega⟩
  have hx : x = Int32.ofNat k := Int32.toInt_inj.mp (by rw [hk, Int32.toInt_ofNat_small (by omega)])
  rw [hx]
  exact t ⟨k, by omega⟩
end StrChars
namespace StrChars.Road
open Jvm Sem ClassFile Op Lib Jvm.Stand Jvm.Free Jvm.Free.XT
open Jvm.Lib.Cold (StaticIs)
abbrev ST : String := "java/lang/String"
/-- every table word that New1's law asks, flat -/
abbrev words : List Jvm.Cond := [.code New1.yN New1.yB 2 none, .initialized ST, .methodLink ST 27 New4.yN, .instanceMethod New4.yN,
  .code New4.yN New4.yB 6 none, .fieldLink ST 38 ST "COMPACT_STRINGS" "Z", .laysFinal ST ST "value" "[B", .fieldLink ST 9 ST "value" "[B", .laysFinal ST ST "coder" "B", .fieldLink ST 15 ST "coder" "B",
  .methodLink ST 1 Lib.objectInit, .instanceMethod Lib.objectInit, .code Lib.objectInit ⟨#[0xb1]⟩ 1 none, .methodLink ST 177 Cmp3.yN, .static Cmp3.yN, .methodLink ST 47 CodL.yN, .static CodL.yN,
  .code Cmp3.yN Cmp3.yB 6 (some (.array .byte)), .initialized U16, .arrayClass .byte, .methodLink U16 115 Cmp5.yN, .static Cmp5.yN, .code Cmp5.yN Cmp5.yB 7 (some .int), .code CodL.yN CodL.yB 2 (some .byte)]
theorem tab_of {a : Array Value} {s : State} (h : ∀ w ∈ words, w.before a s = true) : New1.tab.before a s = true := by
  have h5 : Cmp5.tab.before a s = true := unparts (wk h (.code Cmp5.yN Cmp5.yB 7 (some .int))) (wks h (.initialized Cmp5.yN.cls :: Cmp5.site))
  have hc : CodL.tab.before a s = true := unparts (wk h (.code CodL.yN CodL.yB 2 (some .byte))) (wks h (.initialized CodL.yN.cls :: CodL.site))
  have q5 : ∀ w ∈ Cmp5.tab :: words, w.before a s = true := fun w hw => (List.mem_cons.mp hw).elim (fun e => e ▸ h5) (h w)
  have h3 : Cmp3.tab.before a s = true := unparts (wk q5 (.code Cmp3.yN Cmp3.yB 6 (some (.array .byte)))) (wks q5 (.initialized Cmp3.yN.cls :: Cmp3.site))
  have q3 : ∀ w ∈ Cmp3.tab :: CodL.tab :: words, w.before a s = true := fun w hw => (List.mem_cons.mp hw).elim (fun e => e ▸ h3) fun hw => (List.mem_cons.mp hw).elim (fun e => e ▸ hc) (h w)
  have h4 : New4.tab.before a s = true := unparts (wk q3 (.code New4.yN New4.yB 6 none)) (wks q3 (.initialized New4.yN.cls :: New4.site))
  have q4 : ∀ w ∈ New4.tab :: words, w.before a s = true := fun w hw => (List.mem_cons.mp hw).elim (fun e => e ▸ h4) (h w)
  exact unparts (wk q4 (.code New1.yN New1.yB 2 none)) (wks q4 (.initialized New1.yN.cls :: New1.site))
/-- the words ride from the start Z to the walk's own state -/
theorem moved {Z s : State} {a0 args : Array Value} (hZ : Z.Warmed39 s.vm) (hw : ∀ d ∈ words, d.before a0 Z = true) : ∀ d ∈ words, d.before args s = true := fun d hd => by
  have q := hw d hd
  have t : ∀ d ∈ words, d = .arrayClass .byte ∨ (d.onTables && d.keepsFace) = true := by decide +kernel
  rcases t d hd with rfl | t
  · exact RoadKit.mvA hZ q
  · exact RoadKit.mv hZ q t
/-- WHAT COMES BACK, over the tables of the start Z: h the heap at the call, h' behind it -/
def Q (Z : State) (x : Addr) (A : Cell) (h : Heap) (v : Option Value) (h' : Heap) (L : List Loc) : Prop := v = none ∧ (∀ y ∈ L, y.base = x) ∧ RoadKit.Keep h h' [x] ∧ h'.size = h.size + 1 ∧ RoadKit.Exa Z h' x ST ∧ RoadKit.Fld Z h' x ST "value" "[B" (.ref h.size) ∧ RoadKit.Fld Z h' x ST "coder" "B" (.int 0) ∧
  (∃ V : Cell, RoadKit.Arr Z h' h.size V .byte ∧ V.vm = .none ∧ Z.vm.findClass "[B" = some V.cls ∧ V.slots.size = A.slots.size ∧ ∀ j, j < A.slots.size → V.slots[j]? = some (.int (lo8 (cv A j)))) ∧
  ∀ (O n d : String) (w : Value), RoadKit.Fld Z h x O n d w → RoadKit.slotOf Z O n d ≠ RoadKit.slotOf Z ST "value" "[B" → RoadKit.slotOf Z O n d ≠ RoadKit.slotOf Z ST "coder" "B" → RoadKit.Fld Z h' x O n d w
/-- **new String(chars) AT A CALL, IN THE ROAD'S FORM**: for specialBack behind newO: x the fresh String, b the char[] with the cell A -/
theorem back {p : Program} {l : Launch} {e : Env} {R : Room} {s : State} {args : Array Value} {below : List Frame} {len W : Nat} {Z : State} {a0 : Array Value} {h : Heap} (hZ : Z.Warmed39 s.vm) (hw : ∀ d ∈ words, d.before a0 Z = true) {kI : Nat} (wi : (Jvm.Cond.instantiable ST kI).before a0 Z = true)
    {x b : Addr} {A : Cell} {z : Int32} {v0 c0 : Value} (E : RoadKit.Exa Z h x ST) (V : RoadKit.Fld Z h x ST "value" "[B" v0) (C : RoadKit.Fld Z h x ST "coder" "B" c0) (K : RoadKit.Arr Z h b A .char) (hty : Typed .char A) (S : RoadKit.Sta Z h ST "COMPACT_STRINGS" "Z" (.int z)) (hz : ¬ z = 0)
    (l0 : 0 < A.slots.size) (l2 : A.slots.size ≤ 536870912) (hp : ∀ i, i < A.slots.size → ¬ 255 < cv A i) (hfr : 4 ≤ R.frames) (hlo : W + 65 ≤ R.locals) :
    Back l R p e below s args New1.yN len W (fun P a => a = #[.ref x, .ref b] ∧ P.U.heap = h ∧ P.cells + 1 ≤ R.cells ∧ P.slots + A.slots.size ≤ R.slots)
      (fun P _ v B => ∃ L, Q Z x A h v B.U.heap L ∧ B.locs = P.locs ++ L ∧ B.cells = P.cells + 1 ∧ B.slots = P.slots + A.slots.size) := by
  intro m meth c P g ig mk a X hg hsize hdg hW hn hp'
  obtain ⟨rfl, rfl, r1, r2⟩ := hp'
  have al : Z.vm.Alike P.U.vm := hZ.alike.trans X.warmed.alike
  obtain ⟨D, cfV, kV, iV, fV, hD, gV, stV, knV, obV, asV, slV⟩ := id V
  obtain ⟨D', cfC, kC, iC, fC, hD', gC, stC, -, -, asC, slC⟩ := id C
  cases hD.symm.trans hD'
  obtain ⟨D2, kD, e1, e2, e3, e4, e5⟩ := id E
  cases hD.symm.trans e1
  obtain ⟨c2, k2, i1, i2, i3, -⟩ := Cond.instantiable_spec wi
  cases e2.symm.trans i1
  cases e3.symm.trans i2
  obtain ⟨kU, u1, u2⟩ := al.2.2 _ _ e3
  have hB : Blank ST x D P.U := ⟨hD, ⟨knV, fun q hq => by rw [hq] at obV; cases obV⟩, by rw [al.findClass]; exact e2, kU, u1, by rw [u2]; exact i3, by rw [u2]; exact e5 i3⟩
  have F1 : Found ST "value" "[B" fV P.U := ⟨SBG.found_only al ⟨cfV, kV, iV, gV⟩, stV⟩
  have F2 : Found ST "coder" "B" fC P.U := ⟨SBG.found_only al ⟨cfC, kC, iC, gC⟩, stC⟩
  have hA : Ch b A P.U := ⟨⟨K.1, State.isArrayOf_alike al K.2.1, K.2.2, by omega⟩, hty⟩
  have hS : StaticIs P.U ST "COMPACT_STRINGS" "Z" (.int z) := by
    obtain ⟨cfS, iS, kS, fS, st, cS, t1, t2, t3, t4, t5, t6, t7⟩ := S
    exact StaticIs.there (s := { Z with heap := P.U.heap }) ⟨cfS, iS, kS, fS, st, cS, t1, t2, t3, t4, t5, (fun q => by rw [q] at t6; cases t6), t7⟩ al rfl
  obtain ⟨v, B, X', ⟨⟨hv, E', V', q1, q2, q3, q4, q5, q6, q7, q8, q9, q10, q11⟩, hl, hc, hs⟩, st⟩ := New1.pays x D fV fC b A z (tab_of (moved hZ hw)) hfr hlo m meth c P g ig mk _ X hg hsize hdg hW hn ⟨r1, r2, rfl, hB, F1, F2, hA, hS, hz, l0, l2, hp⟩
  have al' : Z.vm.Alike B.U.vm := hZ.alike.trans X'.warmed.alike
  have hsz : E'.slots.size = D.slots.size := by
    obtain ⟨-, -, -, kB, w1, w2, w3⟩ := q1
    obtain ⟨kB', y1, y2⟩ := al'.2.2 _ _ e3
    rw [q2.2.1] at w1
    cases w1.symm.trans y1
    rw [w3, e5 i3, y2]
  refine ⟨v, B, X', ⟨_, ⟨hv, ?_, ⟨by omega, fun y cy hy hn' => q10 y cy (by simpa using hn') hy, fun y cy hy => ?_⟩, q11, ⟨E', _, q1.1, by rw [q2.2.1]; exact e2, by rw [q2.2.1]; exact e3, by rw [q2.1]; exact obV, fun _ => by rw [hsz]; exact e5 i3⟩,
    ⟨E', cfV, kV, iV, fV, q1.1, gV, stV, by rw [q2.1]; exact knV, by rw [q2.1]; exact obV, by rw [q2.2.1]; exact asV, q3⟩, ⟨E', cfC, kC, iC, fC, q1.1, gC, stC, by rw [q2.1]; exact knV, by rw [q2.1]; exact obV, by rw [q2.2.1]; exact asC, q4⟩,
    ⟨V', ⟨q5.1, State.isArrayOf_alike al'.symm q5.2.1, q5.2.2.1⟩, q6, by rw [← al'.findClass]; exact q7, q8, fun j hj => by have := q9 j hj; rwa [Nat.zero_add] at this⟩, fun O n d w F n1 n2 => ?_⟩, hl, hc, hs⟩, st⟩
  · intro y hy
    simp only [List.mem_cons, List.not_mem_nil, or_false] at hy
    rcases hy with rfl | rfl <;> rfl
  · by_cases q : y = x
    · subst q
      cases hD.symm.trans hy
      exact ⟨E', q1.1, q2.2.1, q2.1, hsz⟩
    · exact ⟨cy, q10 y cy q hy, rfl, rfl, rfl⟩
  · obtain ⟨D3, cf, k, i, f, g1, g2, g3, g4, g5, g6, g7⟩ := F
    cases hD.symm.trans g1
    simp only [RoadKit.slotOf, g2, gV, gC, Option.map_some, Option.getD_some] at n1 n2
    exact ⟨E', cf, k, i, f, q1.1, g2, g3, by rw [q2.1]; exact g4, by rw [q2.1]; exact g5, by rw [q2.2.1]; exact g6, by rw [q2.2.2 f.slot (by simp [n1, n2])]; exact g7⟩
end StrChars.Road
namespace StrChars.Road
open Jvm Sem ClassFile Op Lib Jvm.Stand Jvm.Free Jvm.Free.XT
/-- WHAT COMES BACK, the byte[] as a list of values -/
def QA (Z : State) (x : Addr) (zn : Int32) (cs : List Int32) (h : Heap) (v : Option Value) (h' : Heap) (L : List Loc) : Prop := v = none ∧ (∀ y ∈ L, y.base = x) ∧ RoadKit.Keep h h' [x] ∧ h'.size = h.size + 1 ∧ RoadKit.Exa Z h' x ST ∧ RoadKit.Fld Z h' x ST "value" "[B" (.ref h.size) ∧ RoadKit.Fld Z h' x ST "coder" "B" (.int 0) ∧
  (∃ kb, Z.vm.findClass "[B" = some kb ∧ RoadKit.Arv Z h' h.size kb .byte zn (cs.map fun c => .int (lo8 c)) (.int 0)) ∧
  ∀ (O n d : String) (w : Value), RoadKit.Fld Z h x O n d w → RoadKit.slotOf Z O n d ≠ RoadKit.slotOf Z ST "value" "[B" → RoadKit.slotOf Z O n d ≠ RoadKit.slotOf Z ST "coder" "B" → RoadKit.Fld Z h' x O n d w
/-- **new String(chars) AT A CALL, THE ARRAYS AS LISTS**: the char[] at b holds cs, not empty, no char above 255 -/
theorem backArv {p : Program} {l : Launch} {e : Env} {R : Room} {s : State} {args : Array Value} {below : List Frame} {len W : Nat} {Z : State} {a0 : Array Value} {h : Heap} (hZ : Z.Warmed39 s.vm) (hw : ∀ d ∈ words, d.before a0 Z = true) {kI : Nat} (wi : (Jvm.Cond.instantiable ST kI).before a0 Z = true)
    {x b : Addr} {k : ClassId} {zn z : Int32} {cs : List Int32} {dv v0 c0 : Value} (E : RoadKit.Exa Z h x ST) (V : RoadKit.Fld Z h x ST "value" "[B" v0) (C : RoadKit.Fld Z h x ST "coder" "B" c0) (K : RoadKit.Arv Z h b k .char zn (cs.map Value.int) dv) (S : RoadKit.Sta Z h ST "COMPACT_STRINGS" "Z" (.int z)) (hz : ¬ z = 0)
    (hlen : zn.toNatClampNeg = cs.length) (h0 : 0 < cs.length) (hbig : cs.length ≤ 536870912) (hall : ∀ c ∈ cs, ¬ 255 < c) (hfr : 4 ≤ R.frames) (hlo : W + 65 ≤ R.locals) :
    Back l R p e below s args New1.yN len W (fun P a => a = #[.ref x, .ref b] ∧ P.U.heap = h ∧ P.cells + 1 ≤ R.cells ∧ P.slots + cs.length ≤ R.slots)
      (fun P _ v B => ∃ L, QA Z x zn cs h v B.U.heap L ∧ B.locs = P.locs ++ L ∧ B.cells = P.cells + 1 ∧ B.slots = P.slots + cs.length) := by
  obtain ⟨A, K1, K2, K3, K4, K5, K6⟩ := K
  have e : A.slots.size = cs.length := K3.trans hlen
  have hat : ∀ (i : Nat) (hi : i < cs.length), A.slots[i]? = some (.int cs[i]) := fun i hi => by rw [K5 i (by omega)]; simp [List.getD_eq_getElem?_getD, hi]
  have hcv : ∀ (i : Nat) (hi : i < cs.length), cv A i = cs[i] := fun i hi => by unfold cv; rw [hat i hi]
  have hty : Typed .char A := fun i v hv => by
    have hi : i < A.slots.size := (Array.getElem?_eq_some_iff.mp hv).1
    have q := K5 i hi
    rw [hv] at q
    rw [Option.some.inj q]
    exact K6 i hi
  refine Back.mono (back hZ hw wi E V C K1 hty S hz (by omega) (by omega) (fun i hi => by rw [hcv i (by omega)]; exact hall _ (List.getElem_mem _)) hfr hlo) (fun P a hp => ⟨hp.1, hp.2.1, hp.2.2.1, by rw [e]; exact hp.2.2.2⟩) (fun P a v B hp hq => ?_)
  obtain ⟨L, ⟨q1, q2, q3, q4, q5, q6, q7, ⟨V', v1, v2, v3, v4, v5⟩, q9⟩, hl, hc, hs⟩ := hq
  refine ⟨L, ⟨q1, q2, q3, q4, q5, q6, q7, ⟨V'.cls, v3, V', v1, rfl, by rw [v4, e, hlen], K4, fun i hi => ?_, fun i hi => ?_⟩, q9⟩, hl, hc, by rw [hs, e]⟩
  · have hi' : i < cs.length := by omega
    rw [v5 i (by omega), hcv i hi']; simp [List.getD_eq_getElem?_getD, hi']
  · have hi' : i < cs.length := by omega
    simp only [List.getD_eq_getElem?_getD, List.getElem?_map, List.getElem?_eq_getElem hi', Option.map_some, Option.getD_some]
    exact fits_lo8 _
end StrChars.Road
namespace StrChars.Road
open Jvm Sem ClassFile Op Lib Jvm.Stand Jvm.Free Jvm.Free.XT
/-- WHAT COMES BACK, in the writer's own shape -/
def QV (Z : State) (x : Addr) (N : Int32) (bs : List Int32) (h : Heap) (n0 : Nat) (v : Option Value) (h' : Heap) (L : List Loc) : Prop := v = none ∧ RoadKit.Fr n0 L ∧ RoadKit.Keep h h' [x] ∧ RoadKit.Exa Z h' x ST ∧ RoadKit.Fld Z h' x ST "coder" "B" (.int 0) ∧
  ∃ (t : Addr) (kb : ClassId), n0 ≤ t ∧ h.size ≤ t ∧ ¬ t = x ∧ RoadKit.Fld Z h' x ST "value" "[B" (.ref t) ∧ RoadKit.Arv Z h' t kb .byte N (bs.map Value.int) (.int 0)
/-- **new String(chars) AT A CALL, FOR THE WRITER**: a char[] of n known ints, each 0 to 255 -/
theorem backV {p : Program} {l : Launch} {e : Env} {R : Room} {s : State} {args : Array Value} {below : List Frame} {len W : Nat} {Z : State} {a0 : Array Value} {h : Heap} (hZ : Z.Warmed39 s.vm) (hw : ∀ d ∈ words, d.before a0 Z = true) {kI : Nat} (wi : (Jvm.Cond.instantiable ST kI).before a0 Z = true)
    {x b : Addr} {kC : ClassId} {cs bs : List Int32} {d v0 c0 : Value} {z N : Int32} {n n0 : Nat} (hx0 : n0 ≤ x) (hh0 : n0 ≤ h.size) (E : RoadKit.Exa Z h x ST) (V : RoadKit.Fld Z h x ST "value" "[B" v0) (C : RoadKit.Fld Z h x ST "coder" "B" c0) (K : RoadKit.Arv Z h b kC .char N (cs.map Value.int) d) (S : RoadKit.Sta Z h ST "COMPACT_STRINGS" "Z" (.int z)) (hz : ¬ z = 0)
    (hn : cs.length = n) (hN : N = Int32.ofNat n) (l0 : 0 < n) (l2 : n ≤ 4000) (hp : ∀ c ∈ cs, ¬ c < 0 ∧ ¬ (255 : Int32) < c) (hb : bs = cs.map (fun c => c.toInt8.toInt32)) (hfr : 4 ≤ R.frames) (hlo : W + 65 ≤ R.locals) :
    Back l R p e below s args (⟨"java/lang/String", "<init>", "([C)V"⟩ : MethodName) len W (fun P a => a = #[.ref x, .ref b] ∧ P.U.heap = h ∧ P.cells + 1 ≤ R.cells ∧ P.slots + n ≤ R.slots)
      (fun P _ v B => ∃ L, QV Z x N bs h n0 v B.U.heap L ∧ B.locs = P.locs ++ L ∧ B.cells = P.cells + 1 ∧ B.slots = P.slots + n) := by
  subst hn hN hb
  refine Back.mono (backArv hZ hw wi E V C K S hz (n32 (by omega)) l0 (by omega) (fun c hc => (hp c hc).2) hfr hlo) (fun P a hp => hp) (fun P a v B hp hq => ?_)
  obtain ⟨L, ⟨q1, q2, q3, q4, q5, q6, q7, ⟨kb, v1, v2⟩, q9⟩, hl, hc, hs⟩ := hq
  exact ⟨L, ⟨q1, fun y hy => by rw [q2 y hy]; exact hx0, q3, q5, q7, h.size, kb, hh0, Nat.le_refl _, Nat.ne_of_gt E.lt, q6, by rw [List.map_map]; exact v2⟩, hl, hc, hs⟩
end StrChars.Road
namespace StrChars
open Jvm Sem ClassFile Op Lib Jvm.Stand Jvm.Free.XT Jvm.Free.ALB Jvm.Free.JM Jvm.Free
open Jvm.Lib.Cold (StaticIs)
def hi8 (x : Int32) : Int32 := lo8 (x >>> ((8 : Int32) &&& 31))
/-- what StringUTF16.getChar makes of two bytes -/
def pairCh (u v : Int32) : Int32 := (((u &&& 255) <<< ((0 : Int32) &&& 31)) ||| ((v &&& 255) <<< ((8 : Int32) &&& 31))).toUInt32.toUInt16.toUInt32.toInt32
theorem shr0 (c : Int32) : c >>> ((0 : Int32) &&& 31) = c := by
  have e : ((0 : Int32) &&& 31) = 0 := by decide
  rw [e]
  apply Int32.toBitVec_inj.mp
  rw [Int32.toBitVec_shiftRight]
  have e1 : ((0 : Int32).toBitVec.smod 32) = 0#32 := by decide
  rw [e1, BitVec.sshiftRight_eq']
  exact BitVec.sshiftRight_zero
theorem lo8_and (x : Int32) : (lo8 x &&& 255).toBitVec.toNat = x.toBitVec.toNat % 256 := by
  have h : (lo8 x).toBitVec = (x.toBitVec.signExtend 8).signExtend 32 := by rw [lo8, Int8.toBitVec_toInt32, Int32.toBitVec_toInt8]
  rw [Int32.toBitVec_and, BitVec.toNat_and, h]
  have e : ((x.toBitVec.signExtend 8).signExtend 32).toNat % 256 = x.toBitVec.toNat % 256 := by
    rw [BitVec.toNat_signExtend]
    have hlt := x.toBitVec.isLt
    simp only [BitVec.toNat_setWidth, BitVec.toNat_signExtend]
    split <;> split <;> omega
  rw [← e]
  exact Nat.and_two_pow_sub_one_eq_mod _ 8
theorem pair_says {c : Int32} (h0 : ¬ c < 0) (h1 : ¬ 65535 < c) : pairCh (lo8 c) (hi8 c) = c := by
  rw [Int32.lt_iff_toInt_lt] at h0 h1
  have e0 : (0 : Int32).toInt = 0 := rfl
  have e1 : (65535 : Int32).toInt = 65535 := rfl
  have hc : c.toInt = c.toBitVec.toNat := by
    have := c.toBitVec.isLt
    have e : c.toInt = c.toBitVec.toInt := rfl
    rw [e] at h0 h1
    rw [e]
    rw [BitVec.toInt_eq_toNat_cond] at h0 h1 ⊢
    split at h0 <;> split <;> omega
  have hn : c.toBitVec.toNat < 65536 := by omega
  have a1 := lo8_and c
  have a2 : (hi8 c &&& 255).toBitVec.toNat = c.toBitVec.toNat / 256 := by
    rw [hi8, lo8_and]
    have e : ((8 : Int32) &&& 31) = 8 := by decide
    rw [e, Int32.toBitVec_shiftRight]
    have e2 : ((8 : Int32).toBitVec.smod 32) = 8#32 := by decide
    rw [e2, BitVec.sshiftRight_eq', BitVec.toNat_sshiftRight_of_msb_false (by rw [BitVec.msb_eq_false_iff_two_mul_lt]; omega)]
    show c.toBitVec.toNat >>> 8 % 256 = _
    rw [Nat.shiftRight_eq_div_pow]
    omega
  unfold pairCh
  apply Int32.toBitVec_inj.mp
  apply BitVec.eq_of_toNat_eq
  have f0 : ((0 : Int32) &&& 31) = 0 := by decide
  have f8 : ((8 : Int32) &&& 31) = 8 := by decide
  rw [f0, f8]
  have g : (((lo8 c &&& 255) <<< (0 : Int32)) ||| ((hi8 c &&& 255) <<< (8 : Int32))).toBitVec.toNat = c.toBitVec.toNat := by
    rw [Int32.toBitVec_or, Int32.toBitVec_shiftLeft, Int32.toBitVec_shiftLeft]
    have s0 : ((0 : Int32).toBitVec.smod 32) = 0#32 := by decide
    have s8 : ((8 : Int32).toBitVec.smod 32) = 8#32 := by decide
    rw [s0, s8, BitVec.toNat_or]
    simp only [BitVec.shiftLeft_eq', BitVec.toNat_shiftLeft, a1, a2]
    show (c.toBitVec.toNat % 256) <<< 0 % 2 ^ 32 ||| (c.toBitVec.toNat / 256) <<< 8 % 2 ^ 32 = _
    rw [Nat.shiftLeft_zero, Nat.mod_eq_of_lt (show c.toBitVec.toNat % 256 < 2 ^ 32 by omega), Nat.mod_eq_of_lt (show (c.toBitVec.toNat / 256) <<< 8 < 2 ^ 32 by rw [Nat.shiftLeft_eq]; omega), Nat.or_comm, ← Nat.shiftLeft_add_eq_or_of_lt (by omega), Nat.shiftLeft_eq]
    omega
  show BitVec.toNat (((((lo8 c &&& 255) <<< (0 : Int32)) ||| ((hi8 c &&& 255) <<< (8 : Int32))).toBitVec.setWidth 16).setWidth 32) = _
  rw [BitVec.toNat_setWidth, BitVec.toNat_setWidth, g]
  omega
end StrChars
namespace StrChars
open Jvm Sem ClassFile Op Lib Jvm.Stand Jvm.Free.XT Jvm.Free.ALB Jvm.Free.JM Jvm.Free
open Jvm.Lib.Cold (StaticIs)
theorem shr1 {n : Nat} (h : 2 * n < 2 ^ 31) : Int32.ofNat (2 * n) >>> ((1 : Int32) &&& 31) = Int32.ofNat n := by
  have e : ((1 : Int32) &&& 31) = 1 := by decide
  rw [e]
  apply Int32.toBitVec_inj.mp
  rw [Int32.toBitVec_shiftRight]
  have e1 : ((1 : Int32).toBitVec.smod 32) = 1#32 := by decide
  have hm : (BitVec.ofNat 32 (2 * n)).toNat = 2 * n := by rw [BitVec.toNat_ofNat, Nat.mod_eq_of_lt (by omega)]
  rw [e1, BitVec.sshiftRight_eq']
  apply BitVec.eq_of_toNat_eq
  show ((BitVec.ofNat 32 (2 * n)).sshiftRight 1).toNat = (BitVec.ofNat 32 n).toNat
  rw [BitVec.toNat_sshiftRight_of_msb_false (by rw [BitVec.msb_eq_false_iff_two_mul_lt, hm]; omega), hm, BitVec.toNat_ofNat, Nat.shiftRight_eq_div_pow]
  omega
/-- charAt's cast of a byte read back -/
def chr8 (u : Int32) : Int32 := (u &&& 255).toUInt32.toUInt16.toUInt32.toInt32
theorem chr8_lo8 {c : Int32} (h0 : ¬ c < 0) (h1 : ¬ 255 < c) : chr8 (lo8 c) = c := by
  have t : ∀ k : Fin 256, (Int32.ofNat k.val).toUInt32.toUInt16.toUInt32.toInt32 = Int32.ofNat k.val := by decide +kernel
  unfold chr8
  rw [lo8_mask h0 h1]
  rw [Int32.lt_iff_toInt_lt] at h0 h1
  have e0 : (0 : Int32).toInt = 0 := rfl
  have e1 : (255 : Int32).toInt = 255 := rfl
  obtain ⟨k, hk⟩ : ∃ k : Nat, c.toInt = k := ⟨c.toInt.toNat, by omega⟩
  have hx : c = Int32.ofNat k := Int32.toInt_inj.mp (by rw [hk, Int32.toInt_ofNat_small (by omega)])
  rw [hx]
  exact t ⟨k, by omega⟩
theorem narrow_ch {c : Int32} (h0 : ¬ c < 0) (h1 : ¬ 65535 < c) : narrow .char (.int c) = .int c := by
  have q : narrow .char (.int (pairCh (lo8 c) (hi8 c))) = .int (pairCh (lo8 c) (hi8 c)) := narrow_c _
  rwa [pair_says h0 h1] at q
/-- the array's cell V codes the n chars f 0 .. f (n - 1) by the coder cd, as the JDK does: coder 1 just where some char is above 255 -/
def Cod (cd : Int32) (n : Nat) (f : Nat → Int32) (V : Cell) : Prop := (cd = 0 ∧ V.slots.size = n ∧ ∀ j, j < n → V.slots[j]? = some (.int (lo8 (f j))) ∧ ¬ 255 < f j) ∨ (cd = 1 ∧ V.slots.size = 2 * n ∧ (∀ j, j < n → V.slots[2 * j]? = some (.int (lo8 (f j))) ∧ V.slots[2 * j + 1]? = some (.int (hi8 (f j)))) ∧ ∃ j, j < n ∧ 255 < f j)
theorem Cod.cd {cd : Int32} {n : Nat} {f : Nat → Int32} {V : Cell} (h : Cod cd n f V) : cd = 0 ∨ cd = 1 := h.imp (fun q => q.1) fun q => q.1
theorem Cod.len {cd : Int32} {n : Nat} {f : Nat → Int32} {V : Cell} (h : Cod cd n f V) (hs : V.slots.size < 2 ^ 31) : Int32.ofNat V.slots.size >>> (cd &&& 31) = Int32.ofNat n := by
  rcases h with ⟨rfl, h, -⟩ | ⟨rfl, h, -⟩
  · rw [shr0, h]
  · rw [h, shr1 (by omega)]
/-- **x is a String of the n chars f 0 .. f (n - 1)**, Latin-1 or UTF-16; its array at t has the cell V -/
def Txt (x t : Addr) (V : Cell) (cd : Int32) (n : Nat) (f : Nat → Int32) (U : State) : Prop := Exact "java/lang/String" x U ∧ Has x "java/lang/String" "value" "[B" (.ref t) U ∧ Has x "java/lang/String" "coder" "B" (.int cd) U ∧ XT.Arr .byte t V U ∧ Cod cd n f V ∧ ∀ j, j < n → ¬ f j < 0 ∧ ¬ 65535 < f j
theorem Txt.mv {x t : Addr} {V : Cell} {cd : Int32} {n : Nat} {f : Nat → Int32} {U U' : State} (h : Txt x t V cd n f U) (hal : U.vm.Alike U'.vm) (hh : U'.heap = U.heap) : Txt x t V cd n f U' := ⟨h.1.mv hal hh, h.2.1.mv hal hh, h.2.2.1.mv hal hh, h.2.2.2.1.mv hal hh, h.2.2.2.2⟩
namespace Cdr
def yN : MethodName := ⟨"java/lang/String", "coder", "()B"⟩
abbrev yB : ByteArray := jdk_42_method_152_code
theorem d0 : decode yB 0 = .ok (.getstatic 38, 3) := by decide +kernel
theorem d3 : decode yB 3 = .ok (.ifCond (.eq) 10, 3) := by decide +kernel
theorem d6 : decode yB 6 = .ok (.aload_n 0, 1) := by decide +kernel
theorem d7 : decode yB 7 = .ok (.getfield 15, 3) := by decide +kernel
theorem d10 : decode yB 10 = .ok (.goto 4, 3) := by decide +kernel
theorem d14 : decode yB 14 = .ok (.ireturn, 1) := by decide +kernel
def site : List Cond := [.fieldLink "java/lang/String" 38 "java/lang/String" "COMPACT_STRINGS" "Z", .fieldLink "java/lang/String" 15 "java/lang/String" "coder" "B"]
def tab : Cond := tabOf yN yB 1 (some .byte) site
def P (x : Addr) (cd z : Int32) (args : Array Value) (s : State) : Prop := args = #[.ref x] ∧ Has x "java/lang/String" "coder" "B" (.int cd) s ∧ (cd = 0 ∨ cd = 1) ∧ StaticIs s "java/lang/String" "COMPACT_STRINGS" "Z" (.int z) ∧ ¬ z = 0
def E (cd : Int32) (r : Option Value) (s u : State) : Prop := XT.PureE (some (.int cd)) r s u
theorem law (l : Launch) (x : Addr) (cd z : Int32) : Law l yN 1 0 0 0 yB 1 (some .byte) site (P x cd z) (E cd) [] 0 0 := by
  refine Law.of_walk (plainFor_of_name (by decide +kernel)) (by decide +kernel) (by decide +kernel) (by decide) (fun _ _ h => by rw [h.1]; rfl) (fun _ U U' hal hh h => ⟨h.1, h.2.1.mv hal hh, h.2.2.1, h.2.2.2.1.there hal hh, h.2.2.2.2⟩) (fun r U U' V V' h1 hal h2 h => XT.PureE.mv r U U' V V' h1 hal h2 h) ?_
  intro p e s m args below meth c s₁ X0 hexec hbytes hml hret hlk hnm hown hh0 W hP
  obtain ⟨rfl, hx, hc, s1, hz⟩ := hP
  have c1 : Steps p.tables e below (s₁.setTop (entryFrame m #[.ref x] 1)) (s₁.setTop (mkF m 0 #[.val (.ref x)] [])) := entry rfl
  obtain ⟨T2, X2, q2, st2⟩ := X0.sget hexec hown (wk W (.fieldLink "java/lang/String" 38 "java/lang/String" "COMPACT_STRINGS" "Z")) s1 (fun _ _ h => by rw [hh0]; exact h) (g := (mkF m 0 #[.val (.ref x)] [])) rfl (hb hbytes d0)
  have hh2 := q2.trans hh0
  have c3 : Steps p.tables e below (s₁.setTop (entryFrame m #[.ref x] 1)) (T2.setTop (mkF m 7 #[.val (.ref x)] [.ref x])) := (c1.trans (st2 _ (Steps.refl _))).trans (by
    refine XS.ifNo X2.here hexec rfl (hb hbytes d3) rfl (i0_eq_f hz) ?_
    refine XS.aloadN X2.here hexec rfl (hb hbytes d6) rfl rfl ?_
    exact Steps.refl _)
  obtain ⟨T4, X4, q4, st4⟩ := X2.hget hexec hown (wk W (.fieldLink "java/lang/String" 15 "java/lang/String" "coder" "B")) (hx.mv X2.warmed.alike hh2) (g := (mkF m 7 #[.val (.ref x)] [.ref x])) rfl (rest := []) rfl (hb hbytes d7)
  have c5 : Steps p.tables e below (s₁.setTop (entryFrame m #[.ref x] 1)) (T4.setTop (mkF m 14 #[.val (.ref x)] [.int cd])) := (c3.trans (st4 _ (Steps.refl _))).trans (by
    refine XS.goto X4.here hexec rfl (pc0 := 10) rfl (hb hbytes d10) (by decide) rfl ?_
    exact Steps.refl _)
  exact ⟨T4, some (.int cd), _, _, _, X4, rfl, rfl, rfl, (fun h => by cases h), ⟨rfl, q4.trans hh2⟩, fun fs hl => c5.trans (X4.ireturnOut hexec hret (by rcases hc with rfl | rfl <;> rfl) (Or.inr (Or.inr (Or.inl rfl))) (hb hbytes d14) hl)⟩
end Cdr
namespace Len
def yN : MethodName := ⟨"java/lang/String", "length", "()I"⟩
abbrev yB : ByteArray := jdk_42_method_54_code
theorem d0 : decode yB 0 = .ok (.aload_n 0, 1) := by decide +kernel
theorem d1 : decode yB 1 = .ok (.getfield 9, 3) := by decide +kernel
theorem d4 : decode yB 4 = .ok (.arraylength, 1) := by decide +kernel
theorem d5 : decode yB 5 = .ok (.aload_n 0, 1) := by decide +kernel
theorem d6 : decode yB 6 = .ok (.invokevirtual 335, 3) := by decide +kernel
theorem d9 : decode yB 9 = .ok (.ishr, 1) := by decide +kernel
theorem d10 : decode yB 10 = .ok (.ireturn, 1) := by decide +kernel
def site : List Cond := [.fieldLink "java/lang/String" 9 "java/lang/String" "value" "[B", Cdr.tab] ++ virtW "java/lang/String" 335 "java/lang/String" Cdr.yN Cdr.yN
def tab : Cond := tabOf yN yB 1 (some .int) site
def P (x t : Addr) (V : Cell) (cd : Int32) (n : Nat) (f : Nat → Int32) (z : Int32) (args : Array Value) (s : State) : Prop := args = #[.ref x] ∧ Txt x t V cd n f s ∧ StaticIs s "java/lang/String" "COMPACT_STRINGS" "Z" (.int z) ∧ ¬ z = 0
def E (n : Nat) (r : Option Value) (s u : State) : Prop := XT.PureE (some (.int (Int32.ofNat n))) r s u
/-- length() of a String of n chars, in either coding -/
theorem law (l : Launch) (x t : Addr) (V : Cell) (cd : Int32) (n : Nat) (f : Nat → Int32) (z : Int32) : Law l yN 1 0 1 13 yB 1 (some .int) site (P x t V cd n f z) (E n) [] 0 0 := by
  refine Law.of_walk (plainFor_of_name (by decide +kernel)) (by decide +kernel) (by decide +kernel) (by decide) (fun _ _ h => by rw [h.1]; rfl) (fun _ U U' hal hh h => ⟨h.1, h.2.1.mv hal hh, h.2.2.1.there hal hh, h.2.2.2⟩) (fun r U U' V V' h1 hal h2 h => XT.PureE.mv r U U' V V' h1 hal h2 h) ?_
  intro p e s m args below meth c s₁ X0 hexec hbytes hml hret hlk hnm hown hh0 W hP
  obtain ⟨rfl, hx, s1, hz⟩ := hP
  have v31 := hx.2.2.2.1.2.2.2
  have c1 : Steps p.tables e below (s₁.setTop (entryFrame m #[.ref x] 1)) (s₁.setTop (mkF m 1 #[.val (.ref x)] [.ref x])) := Steps.trans (entry rfl) (by
    show Steps p.tables e below (s₁.setTop (mkF m 0 #[.val (.ref x)] [])) _
    refine XS.aloadN X0.here hexec rfl (hb hbytes d0) rfl rfl ?_
    exact Steps.refl _)
  obtain ⟨T2, X2, q2, st2⟩ := X0.hget hexec hown (wk W (.fieldLink "java/lang/String" 9 "java/lang/String" "value" "[B")) (hx.mv X0.warmed.alike hh0).2.1 (g := (mkF m 1 #[.val (.ref x)] [.ref x])) rfl (rest := []) rfl (hb hbytes d1)
  have hh2 := q2.trans hh0
  have hx2 := hx.mv X2.warmed.alike hh2
  have c3 : Steps p.tables e below (s₁.setTop (entryFrame m #[.ref x] 1)) (T2.setTop (mkF m 6 #[.val (.ref x)] [.ref x, .int (Int32.ofNat V.slots.size)])) := (c1.trans (st2 _ (Steps.refl _))).trans (by
    refine X2.alen hexec hx2.2.2.2.1 rfl rfl (hb hbytes d4) ?_
    refine XS.aloadN X2.here hexec rfl (hb hbytes d5) rfl rfl ?_
    exact Steps.refl _)
  obtain ⟨v4, T4, X4, E4, g4⟩ := X2.callV hexec (Cdr.law l x cd z) hown (wks W (virtW "java/lang/String" 335 "java/lang/String" Cdr.yN Cdr.yN)) rfl (by decide) (wk W Cdr.tab) (W := 1) (Nat.le_of_ble_eq_true rfl) (Nat.le_of_ble_eq_true rfl) (Nat.le_refl _) (Nat.le_refl _) (hx2.1.fc X2.warmed.alike) hx2.1.is (g := (mkF m 6 #[.val (.ref x)] [.ref x, .int (Int32.ofNat V.slots.size)])) rfl (by rw [hml]; rfl) c3 (argsL := []) (rest := [.int (Int32.ofNat V.slots.size)]) rfl rfl (by show 2 * 0 + (1 + 0) ≤ _; decide) (hb hbytes d6) (⟨rfl, hx2.2.2.1, hx.2.2.2.2.1.cd, s1.there X2.warmed.alike hh2, hz⟩)
  obtain ⟨rfl, q4⟩ := E4
  have c5 : Steps p.tables e below (s₁.setTop (entryFrame m #[.ref x] 1)) (T4.setTop (mkF m 10 #[.val (.ref x)] [.int (Int32.ofNat V.slots.size >>> (cd &&& 31))])) := Steps.trans g4 (by
    refine ishr X4.here hexec rfl (hb hbytes d9) rfl ?_
    exact Steps.refl _)
  rw [hx.2.2.2.2.1.len v31] at c5
  exact ⟨T4, some (.int (Int32.ofNat n)), _, _, _, X4, rfl, rfl, rfl, (fun h => by cases h), ⟨rfl, q4.trans hh2⟩, fun fs hl => c5.trans (X4.ireturnOut hexec hret rfl (Or.inl rfl) (hb hbytes d10) hl)⟩
theorem pays {l : Launch} {R : Room} {p : Program} {e : Env} {below : List Frame} {s : State} {sargs : Array Value} {len W : Nat} (x t : Addr) (V : Cell) (cd : Int32) (n : Nat) (f : Nat → Int32) (z : Int32) (htab : tab.before sargs s = true) (hfr : 2 ≤ R.frames) (hlo : W + 25 ≤ R.locals) :
    Back l R p e below s sargs yN len W (fun A₁ a₁ => A₁.cells + 0 ≤ R.cells ∧ A₁.slots + 0 ≤ R.slots ∧ P x t V cd n f z a₁ A₁.U) (fun A₁ _ v₁ B₁ => E n v₁ A₁.U B₁.U ∧ B₁.locs = A₁.locs ++ [] ∧ B₁.cells = A₁.cells + 0 ∧ B₁.slots = A₁.slots + 0) :=
  (law l x t V cd n f z).pays htab hfr (by omega)
end Len
namespace IsL
def yN : MethodName := ⟨"java/lang/String", "isLatin1", "()Z"⟩
abbrev yB : ByteArray := jdk_42_method_154_code
theorem d0 : decode yB 0 = .ok (.getstatic 38, 3) := by decide +kernel
theorem d3 : decode yB 3 = .ok (.ifCond (.eq) 14, 3) := by decide +kernel
theorem d6 : decode yB 6 = .ok (.aload_n 0, 1) := by decide +kernel
theorem d7 : decode yB 7 = .ok (.getfield 15, 3) := by decide +kernel
theorem d10 : decode yB 10 = .ok (.ifCond (.ne) 7, 3) := by decide +kernel
theorem d13 : decode yB 13 = .ok (.iconst 1, 1) := by decide +kernel
theorem d14 : decode yB 14 = .ok (.goto 4, 3) := by decide +kernel
theorem d17 : decode yB 17 = .ok (.iconst 0, 1) := by decide +kernel
theorem d18 : decode yB 18 = .ok (.ireturn, 1) := by decide +kernel
def site : List Cond := [.fieldLink "java/lang/String" 38 "java/lang/String" "COMPACT_STRINGS" "Z", .fieldLink "java/lang/String" 15 "java/lang/String" "coder" "B"]
def tab : Cond := tabOf yN yB 1 (some .boolean) site
def P (x : Addr) (cd z : Int32) (args : Array Value) (s : State) : Prop := args = #[.ref x] ∧ Has x "java/lang/String" "coder" "B" (.int cd) s ∧ (cd = 0 ∨ cd = 1) ∧ StaticIs s "java/lang/String" "COMPACT_STRINGS" "Z" (.int z) ∧ ¬ z = 0
def E (cd : Int32) (r : Option Value) (s u : State) : Prop := XT.PureE (some (.int (1 - cd))) r s u
theorem law (l : Launch) (x : Addr) (cd z : Int32) : Law l yN 1 0 0 0 yB 1 (some .boolean) site (P x cd z) (E cd) [] 0 0 := by
  refine Law.of_walk (plainFor_of_name (by decide +kernel)) (by decide +kernel) (by decide +kernel) (by decide) (fun _ _ h => by rw [h.1]; rfl) (fun _ U U' hal hh h => ⟨h.1, h.2.1.mv hal hh, h.2.2.1, h.2.2.2.1.there hal hh, h.2.2.2.2⟩) (fun r U U' V V' h1 hal h2 h => XT.PureE.mv r U U' V V' h1 hal h2 h) ?_
  intro p e s m args below meth c s₁ X0 hexec hbytes hml hret hlk hnm hown hh0 W hP
  obtain ⟨rfl, hx, hc, s1, hz⟩ := hP
  have c1 : Steps p.tables e below (s₁.setTop (entryFrame m #[.ref x] 1)) (s₁.setTop (mkF m 0 #[.val (.ref x)] [])) := entry rfl
  obtain ⟨T2, X2, q2, st2⟩ := X0.sget hexec hown (wk W (.fieldLink "java/lang/String" 38 "java/lang/String" "COMPACT_STRINGS" "Z")) s1 (fun _ _ h => by rw [hh0]; exact h) (g := (mkF m 0 #[.val (.ref x)] [])) rfl (hb hbytes d0)
  have hh2 := q2.trans hh0
  have c3 : Steps p.tables e below (s₁.setTop (entryFrame m #[.ref x] 1)) (T2.setTop (mkF m 7 #[.val (.ref x)] [.ref x])) := (c1.trans (st2 _ (Steps.refl _))).trans (by
    refine XS.ifNo X2.here hexec rfl (hb hbytes d3) rfl (i0_eq_f hz) ?_
    refine XS.aloadN X2.here hexec rfl (hb hbytes d6) rfl rfl ?_
    exact Steps.refl _)
  obtain ⟨T4, X4, q4, st4⟩ := X2.hget hexec hown (wk W (.fieldLink "java/lang/String" 15 "java/lang/String" "coder" "B")) (hx.mv X2.warmed.alike hh2) (g := (mkF m 7 #[.val (.ref x)] [.ref x])) rfl (rest := []) rfl (hb hbytes d7)
  have c5 : Steps p.tables e below (s₁.setTop (entryFrame m #[.ref x] 1)) (T4.setTop (mkF m 10 #[.val (.ref x)] [.int cd])) := c3.trans (st4 _ (Steps.refl _))
  have c6 : Steps p.tables e below (s₁.setTop (entryFrame m #[.ref x] 1)) (T4.setTop (mkF m 18 #[.val (.ref x)] [.int (1 - cd)])) := by
    rcases hc with rfl | rfl
    · exact c5.trans (by
        refine XS.ifNo X4.here hexec rfl (hb hbytes d10) rfl (i0_ne_f rfl) ?_
        refine iconstV X4.here hexec rfl 1 (hb hbytes d13) (by decide) ?_
        refine XS.goto X4.here hexec rfl (pc0 := 14) rfl (hb hbytes d14) (by decide) rfl ?_
        exact Steps.refl _)
    · exact c5.trans (by
        refine XS.ifYes X4.here hexec rfl (pc0 := 10) rfl (hb hbytes d10) rfl (i0_ne_t (by decide)) (by decide) rfl ?_
        refine iconstV X4.here hexec rfl 0 (hb hbytes d17) (by decide) ?_
        exact Steps.refl _)
  exact ⟨T4, some (.int (1 - cd)), _, _, _, X4, rfl, rfl, rfl, (fun h => by cases h), ⟨rfl, q4.trans hh2⟩, fun fs hl => c6.trans (X4.ireturnOut hexec hret (by rcases hc with rfl | rfl <;> rfl) (Or.inr (Or.inl rfl)) (hb hbytes d18) hl)⟩
end IsL
namespace LChA
def yN : MethodName := ⟨"java/lang/StringLatin1", "charAt", "([BI)C"⟩
abbrev yB : ByteArray := jdk_43_method_2_code
theorem d0 : decode yB 0 = .ok (.iload_n 1, 1) := by decide +kernel
theorem d1 : decode yB 1 = .ok (.aload_n 0, 1) := by decide +kernel
theorem d2 : decode yB 2 = .ok (.arraylength, 1) := by decide +kernel
theorem d3 : decode yB 3 = .ok (.invokestatic 9, 3) := by decide +kernel
theorem d6 : decode yB 6 = .ok (.aload_n 0, 1) := by decide +kernel
theorem d7 : decode yB 7 = .ok (.iload_n 1, 1) := by decide +kernel
theorem d8 : decode yB 8 = .ok (.baload, 1) := by decide +kernel
theorem d9 : decode yB 9 = .ok (.sipush 255, 3) := by decide +kernel
theorem d12 : decode yB 12 = .ok (.iand, 1) := by decide +kernel
theorem d13 : decode yB 13 = .ok (.i2c, 1) := by decide +kernel
theorem d14 : decode yB 14 = .ok (.ireturn, 1) := by decide +kernel
def site : List Cond := [JO.Str_checkIndex.tab] ++ staticW "java/lang/StringLatin1" 9 JO.Str_checkIndex.yN
def tab : Cond := tabOf yN yB 2 (some .char) site
def P (t : Addr) (V : Cell) (i : Nat) (u : Int32) (fm : Value) (args : Array Value) (s : State) : Prop := args = #[.ref t, .int (Int32.ofNat i)] ∧ XT.Arr .byte t V s ∧ V.slots[i]? = some (.int u) ∧ (StaticIs s "jdk/internal/util/Preconditions" "SIOOBE_FORMATTER" "Ljava/util/function/BiFunction;" fm ∧ fm.isRef = true)
def E (u : Int32) (r : Option Value) (s w : State) : Prop := XT.PureE (some (.int (chr8 u))) r s w
theorem law (l : Launch) (t : Addr) (V : Cell) (i : Nat) (u : Int32) (fm : Value) : Law l yN 2 2 2 27 yB 2 (some .char) site (P t V i u fm) (E u) [] 0 0 := by
  refine Law.of_walk (plainFor_of_name (by decide +kernel)) (by decide +kernel) (by decide +kernel) (by decide) (fun _ _ h => by rw [h.1]; rfl) (fun _ U U' hal hh h => ⟨h.1, h.2.1.mv hal hh, h.2.2.1, h.2.2.2.1.there hal hh, h.2.2.2.2⟩) (fun r U U' V V' h1 hal h2 h => XT.PureE.mv r U U' V V' h1 hal h2 h) ?_
  intro p e s m args below meth c s₁ X0 hexec hbytes hml hret hlk hnm hown hh0 W hP
  obtain ⟨rfl, hV, hu, s1, rf⟩ := hP
  have v31 := hV.2.2.2
  have hi : i < V.slots.size := (Array.getElem?_eq_some_iff.mp hu).1
  have c1 : Steps p.tables e below (s₁.setTop (entryFrame m #[.ref t, .int (Int32.ofNat i)] 2)) (s₁.setTop (mkF m 0 #[.val (.ref t), .val (.int (Int32.ofNat i))] [])) := entry rfl
  have c2 : Steps p.tables e below (s₁.setTop (entryFrame m #[.ref t, .int (Int32.ofNat i)] 2)) (s₁.setTop (mkF m 3 #[.val (.ref t), .val (.int (Int32.ofNat i))] [.int (Int32.ofNat V.slots.size), .int (Int32.ofNat i)])) := c1.trans (by
    refine XS.iloadN X0.here hexec rfl (hb hbytes d0) rfl ?_
    refine XS.aloadN X0.here hexec rfl (hb hbytes d1) rfl rfl ?_
    refine X0.alen hexec (hV.mv X0.warmed.alike hh0) rfl rfl (hb hbytes d2) ?_
    exact Steps.refl _)
  obtain ⟨v3, T3, X3, E3, g3⟩ := X0.callS hexec (JO.Str_checkIndex.law l (Int32.ofNat i) (Int32.ofNat V.slots.size) fm) hown (wks W (staticW "java/lang/StringLatin1" 9 JO.Str_checkIndex.yN)) (wk W JO.Str_checkIndex.tab) (W := 0) (Nat.le_of_ble_eq_true rfl) (Nat.le_of_ble_eq_true rfl) (Nat.le_refl _) (Nat.le_refl _) (g := (mkF m 3 #[.val (.ref t), .val (.int (Int32.ofNat i))] [.int (Int32.ofNat V.slots.size), .int (Int32.ofNat i)])) rfl (by rw [hml]; rfl) c2 (argsL := [.int (Int32.ofNat i), .int (Int32.ofNat V.slots.size)]) (rest := []) rfl rfl (by show 2 * 0 + 0 ≤ _; decide) (hb hbytes d3) (⟨rfl, rf, s1.there X0.warmed.alike hh0, Int32.ofNat_not_neg (by omega), lt32 v31 hi⟩)
  obtain ⟨rfl, q3⟩ := E3
  have hh3 := q3.trans hh0
  have c4 : Steps p.tables e below (s₁.setTop (entryFrame m #[.ref t, .int (Int32.ofNat i)] 2)) (T3.setTop (mkF m 14 #[.val (.ref t), .val (.int (Int32.ofNat i))] [.int (chr8 u)])) := Steps.trans g3 (by
    refine XS.aloadN X3.here hexec rfl (hb hbytes d6) rfl rfl ?_
    refine XS.iloadN X3.here hexec rfl (hb hbytes d7) rfl ?_
    refine X3.aget hexec (hV.mv X3.warmed.alike hh3) rfl hu rfl rfl (hb hbytes d8) ?_
    refine sipushV X3.here hexec rfl 255 (hb hbytes d9) (by decide) ?_
    refine XS.iand X3.here hexec rfl (hb hbytes d12) rfl ?_
    refine i2c X3.here hexec rfl (hb hbytes d13) rfl ?_
    exact Steps.refl _)
  exact ⟨T3, some (.int (chr8 u)), _, _, _, X3, rfl, rfl, rfl, (fun h => by cases h), ⟨rfl, hh3⟩, fun fs hl => c4.trans (X3.ireturnOut hexec hret (narrow_c _) (Or.inr (Or.inr (Or.inr (Or.inl rfl)))) (hb hbytes d14) hl)⟩
end LChA
end StrChars
namespace StrChars.Road
open Jvm Sem ClassFile Op Lib Jvm.Stand Jvm.Free Jvm.Free.XT
open Jvm.Lib.Cold (StaticIs)
theorem consq {a : Array Value} {s : State} {c : Jvm.Cond} {L : List Jvm.Cond} (h0 : c.before a s = true) (h : ∀ w ∈ L, w.before a s = true) : ∀ w ∈ c :: L, w.before a s = true := fun w hw => (List.mem_cons.mp hw).elim (fun e => e ▸ h0) (h w)
/-- the words of String.length(), either coding -/
abbrev wordsLen : List Jvm.Cond := [.code Len.yN Len.yB 1 (some .int), .initialized ST, .fieldLink ST 9 ST "value" "[B", .fieldLink ST 38 ST "COMPACT_STRINGS" "Z", .fieldLink ST 15 ST "coder" "B", .code Cdr.yN Cdr.yB 1 (some .byte), .methodLink ST 335 Cdr.yN, .declares Cdr.yN, .selects ST Cdr.yN Cdr.yN, .instanceMethod Cdr.yN]
theorem tabLen_of {a : Array Value} {s : State} (h : ∀ w ∈ wordsLen, w.before a s = true) : Len.tab.before a s = true := by
  have hc : Cdr.tab.before a s = true := unparts (wk h (.code Cdr.yN Cdr.yB 1 (some .byte))) (wks h (.initialized Cdr.yN.cls :: Cdr.site))
  have q := consq hc h
  exact unparts (wk q (.code Len.yN Len.yB 1 (some .int))) (wks q (.initialized Len.yN.cls :: Len.site))
theorem movedLen {Z s : State} {a0 args : Array Value} (hZ : Z.Warmed39 s.vm) (hw : ∀ d ∈ wordsLen, d.before a0 Z = true) : ∀ d ∈ wordsLen, d.before args s = true := fun d hd => by
  have q := hw d hd
  have t : ∀ d ∈ wordsLen, d = .arrayClass .byte ∨ (d.onTables && d.keepsFace) = true := by decide +kernel
  rcases t d hd with rfl | t
  · exact RoadKit.mvA hZ q
  · exact RoadKit.mv hZ q t
/-- the bytes of the chars cs, low before high -/
def wideBytes : List Int32 → List Value
  | [] => []
  | c :: cs => .int (lo8 c) :: .int (hi8 c) :: wideBytes cs
theorem wide_lo (d : Value) : ∀ (cs : List Int32) (j : Nat), j < cs.length → (wideBytes cs).getD (2 * j) d = .int (lo8 (cs.getD j 0))
  | [], j, h => absurd h (Nat.not_lt_zero j)
  | c :: cs, 0, _ => rfl
  | c :: cs, j + 1, h => by
    have q := wide_lo d cs j (by simpa using h)
    rw [show 2 * (j + 1) = 2 * j + 1 + 1 from by omega]
    simpa [wideBytes] using q
theorem wide_hi (d : Value) : ∀ (cs : List Int32) (j : Nat), j < cs.length → (wideBytes cs).getD (2 * j + 1) d = .int (hi8 (cs.getD j 0))
  | [], j, h => absurd h (Nat.not_lt_zero j)
  | c :: cs, 0, _ => rfl
  | c :: cs, j + 1, h => by
    have q := wide_hi d cs j (by simpa using h)
    rw [show 2 * (j + 1) + 1 = 2 * j + 1 + 1 + 1 from by omega]
    simpa [wideBytes] using q
theorem low_at (d : Value) (cs : List Int32) (j : Nat) (h : j < cs.length) : (cs.map fun c => Value.int (lo8 c)).getD j d = .int (lo8 (cs.getD j 0)) := by
  simp [List.getD_eq_getElem?_getD, h]
/-- an array of N2 bytes vs codes the chars cs by the coder cd -/
def CodA (cs : List Int32) (cd N2 : Int32) (vs : List Value) : Prop := (cd = 0 ∧ N2 = Int32.ofNat cs.length ∧ vs = (cs.map fun c => Value.int (lo8 c)) ∧ ∀ c ∈ cs, ¬ 255 < c) ∨ (cd = 1 ∧ N2 = Int32.ofNat (2 * cs.length) ∧ vs = wideBytes cs ∧ ∃ c ∈ cs, 255 < c)
theorem CodA.cod {cs : List Int32} {cd N2 : Int32} {vs : List Value} {V : Cell} (h : CodA cs cd N2 vs) (hn : 2 * cs.length < 2 ^ 31) (hs : V.slots.size = N2.toNatClampNeg) (hv : RoadKit.Has V vs (.int 0)) : Cod cd cs.length (fun j => cs.getD j 0) V := by
  rcases h with ⟨rfl, rfl, rfl, h⟩ | ⟨rfl, rfl, rfl, c, hc, hw⟩
  · rw [n32 (by omega)] at hs
    exact Or.inl ⟨rfl, hs, fun j hj => ⟨by rw [hv j (by omega), low_at _ _ _ hj], by
      have e : cs.getD j 0 = cs[j] := by simp [List.getD_eq_getElem?_getD, hj]
      show ¬ 255 < cs.getD j 0
      rw [e]; exact h _ (List.getElem_mem _)⟩⟩
  · rw [n32 (by omega)] at hs
    obtain ⟨j, hj, rfl⟩ := List.getElem_of_mem hc
    exact Or.inr ⟨rfl, hs, fun j hj => ⟨by rw [hv _ (by omega), wide_lo _ _ _ hj], by rw [hv _ (by omega), wide_hi _ _ _ hj]⟩, j, hj, by
      have e : cs.getD j 0 = cs[j] := by simp [List.getD_eq_getElem?_getD, hj]
      show 255 < cs.getD j 0
      rw [e]; exact hw⟩
/-- an object of exactly java/lang/String, its two fields found: as the laws ask it -/
theorem strObj {Z U : State} {a0 : Array Value} {kI : Nat} (wi : (Jvm.Cond.instantiable ST kI).before a0 Z = true) (al : Z.vm.Alike U.vm) {x : Addr} {v0 c0 : Value} (E : RoadKit.Exa Z U.heap x ST) (V : RoadKit.Fld Z U.heap x ST "value" "[B" v0) (C : RoadKit.Fld Z U.heap x ST "coder" "B" c0) :
    ∃ (D : Cell) (fV fC : Field), Blank ST x D U ∧ Found ST "value" "[B" fV U ∧ Found ST "coder" "B" fC U ∧ D.slots[fV.slot]? = some v0 ∧ D.slots[fC.slot]? = some c0 ∧ RoadKit.slotOf Z ST "value" "[B" = fV.slot ∧ RoadKit.slotOf Z ST "coder" "B" = fC.slot := by
  obtain ⟨D, cfV, kV, iV, fV, hD, gV, stV, knV, obV, asV, slV⟩ := V
  obtain ⟨D', cfC, kC, iC, fC, hD', gC, stC, -, -, asC, slC⟩ := C
  cases hD.symm.trans hD'
  obtain ⟨D2, kD, e1, e2, e3, e4, e5⟩ := E
  cases hD.symm.trans e1
  obtain ⟨c2, k2, i1, i2, i3, -⟩ := Cond.instantiable_spec wi
  cases e2.symm.trans i1
  cases e3.symm.trans i2
  obtain ⟨kU, u1, u2⟩ := al.2.2 _ _ e3
  exact ⟨D, fV, fC, ⟨hD, ⟨knV, fun q hq => by rw [hq] at obV; cases obV⟩, by rw [al.findClass]; exact e2, kU, u1, by rw [u2]; exact i3, by rw [u2]; exact e5 i3⟩, ⟨SBG.found_only al ⟨cfV, kV, iV, gV⟩, stV⟩, ⟨SBG.found_only al ⟨cfC, kC, iC, gC⟩, stC⟩, slV, slC, by simp [RoadKit.slotOf, gV], by simp [RoadKit.slotOf, gC]⟩
theorem sta_is {Z U : State} (al : Z.vm.Alike U.vm) {C n d : String} {v : Value} (S : RoadKit.Sta Z U.heap C n d v) : StaticIs U C n d v := by
  obtain ⟨cfS, iS, kS, fS, st, cS, t1, t2, t3, t4, t5, t6, t7⟩ := S
  exact StaticIs.there (s := { Z with heap := U.heap }) ⟨cfS, iS, kS, fS, st, cS, t1, t2, t3, t4, t5, (fun q => by rw [q] at t6; cases t6), t7⟩ al rfl
/-- **length() OF SUCH A STRING** -/
theorem lenW {p : Program} {l : Launch} {e : Env} {R : Room} {s : State} {args : Array Value} {below : List Frame} {len W : Nat} {Z : State} {a0 : Array Value} {h : Heap} (hZ : Z.Warmed39 s.vm) (hw : ∀ d ∈ wordsLen, d.before a0 Z = true) {kI : Nat} (wi : (Jvm.Cond.instantiable ST kI).before a0 Z = true)
    {x t : Addr} {kb : ClassId} {cs : List Int32} {cd N2 z : Int32} {vs : List Value} (E : RoadKit.Exa Z h x ST) (V : RoadKit.Fld Z h x ST "value" "[B" (.ref t)) (C : RoadKit.Fld Z h x ST "coder" "B" (.int cd)) (K : RoadKit.Arv Z h t kb .byte N2 vs (.int 0)) (hc : CodA cs cd N2 vs) (hb : ∀ c ∈ cs, ¬ c < 0 ∧ ¬ (65535 : Int32) < c)
    (S : RoadKit.Sta Z h ST "COMPACT_STRINGS" "Z" (.int z)) (hz : ¬ z = 0) (l2 : cs.length ≤ 4000) (hfr : 2 ≤ R.frames) (hlo : W + 25 ≤ R.locals) :
    Back l R p e below s args (⟨"java/lang/String", "length", "()I"⟩ : MethodName) len W (fun P a => a = #[.ref x] ∧ P.U.heap = h ∧ P.cells + 0 ≤ R.cells ∧ P.slots + 0 ≤ R.slots)
      (fun P _ v B => ∃ L, (v = some (.int (Int32.ofNat cs.length)) ∧ L = [] ∧ B.U.heap = h) ∧ B.locs = P.locs ++ L ∧ B.cells = P.cells + 0 ∧ B.slots = P.slots + 0) := by
  obtain ⟨A, K1, K2, K3, K4, K5, K6⟩ := K
  have hcod := hc.cod (by omega) K3 K5
  intro m meth c P g ig mk a X hg hsize hdg hW hn hp'
  obtain ⟨rfl, rfl, r1, r2⟩ := hp'
  have al : Z.vm.Alike P.U.vm := hZ.alike.trans X.warmed.alike
  obtain ⟨D, fV, fC, hB, F1, F2, g1, g2, -, -⟩ := strObj wi al E V C
  have hx : Txt x t A cd cs.length (fun j => cs.getD j 0) P.U := ⟨⟨_, hB.2.2.1, D, hB.1, rfl, by cases q : D.vm <;> first | rfl | exact absurd q (hB.2.1.2 _)⟩, Has.of hB F1 g1, Has.of hB F2 g2, ⟨K1.1, State.isArrayOf_alike al K1.2.1, K1.2.2, by rcases hcod with ⟨-, q, -⟩ | ⟨-, q, -⟩ <;> omega⟩, hcod, fun j hj => by
    have e : cs.getD j 0 = cs[j] := by simp [List.getD_eq_getElem?_getD, hj]
    show ¬ cs.getD j 0 < 0 ∧ ¬ 65535 < cs.getD j 0
    rw [e]; exact hb _ (List.getElem_mem _)⟩
  obtain ⟨v, B, X', ⟨⟨hv, hh⟩, hl, hk, hs⟩, st⟩ := Len.pays x t A cd cs.length (fun j => cs.getD j 0) z (tabLen_of (movedLen hZ hw)) hfr hlo m meth c P g ig mk _ X hg hsize hdg hW hn ⟨r1, r2, rfl, hx, sta_is al S, hz⟩
  exact ⟨v, B, X', ⟨[], ⟨hv, rfl, hh⟩, hl, hk, hs⟩, st⟩
end StrChars.Road
namespace StrChars
open Jvm Sem ClassFile Op Lib Jvm.Stand Jvm.Free.XT Jvm.Free.ALB Jvm.Free.JM Jvm.Free
open Jvm.Lib.Cold (StaticIs)
/-- what place i of a byte[]'s cell holds -/
def yv (A : Cell) (i : Nat) : Int32 := match A.slots[i]? with | some (.int x) => x | _ => 0
theorem yv_get {a : Addr} {A : Cell} {U : State} (h : XT.Arr .byte a A U) (ht : Typed .byte A) {i : Nat} (hi : i < A.slots.size) : A.slots[i]? = some (.int (yv A i)) := by
  have e := Array.getElem?_eq_getElem hi
  have f := ht i _ e
  unfold yv; rw [e]
  generalize A.slots[i] = v at f
  cases v <;> simp [fits] at f ⊢
/-- the two arrays are equal, place for place -/
def EqC (A B : Cell) : Prop := A.slots.size = B.slots.size ∧ ∀ i, i < A.slots.size → yv A i = yv B i
/-- a boolean that says whether p -/
def Says01 (q : Prop) (r : Option Value) (s u : State) : Prop := ∃ v : Int32, r = some (.int v) ∧ u.heap = s.heap ∧ ((v = 1 ∧ q) ∨ (v = 0 ∧ ¬ q))
theorem Says01.mv {q : Prop} : ∀ r (U U' V V' : State), U'.heap = U.heap → V.vm.Alike V'.vm → V'.heap = V.heap → Says01 q r U V → Says01 q r U' V' :=
  fun r U U' V V' h1 _ h2 ⟨v, a, b, c⟩ => ⟨v, a, by rw [h1, h2]; exact b, c⟩
namespace LEq
def yN : MethodName := ⟨"java/lang/StringLatin1", "equals", "([B[B)Z"⟩
abbrev yB : ByteArray := jdk_43_method_13_code
theorem d0 : decode yB 0 = .ok (.aload_n 0, 1) := by decide +kernel
theorem d1 : decode yB 1 = .ok (.arraylength, 1) := by decide +kernel
theorem d2 : decode yB 2 = .ok (.aload_n 1, 1) := by decide +kernel
theorem d3 : decode yB 3 = .ok (.arraylength, 1) := by decide +kernel
theorem d4 : decode yB 4 = .ok (.if_icmp (.ne) 30, 3) := by decide +kernel
theorem d7 : decode yB 7 = .ok (.iconst 0, 1) := by decide +kernel
theorem d8 : decode yB 8 = .ok (.istore_n 2, 1) := by decide +kernel
theorem d9 : decode yB 9 = .ok (.iload_n 2, 1) := by decide +kernel
theorem d10 : decode yB 10 = .ok (.aload_n 0, 1) := by decide +kernel
theorem d11 : decode yB 11 = .ok (.arraylength, 1) := by decide +kernel
theorem d12 : decode yB 12 = .ok (.if_icmp (.ge) 20, 3) := by decide +kernel
theorem d15 : decode yB 15 = .ok (.aload_n 0, 1) := by decide +kernel
theorem d16 : decode yB 16 = .ok (.iload_n 2, 1) := by decide +kernel
theorem d17 : decode yB 17 = .ok (.baload, 1) := by decide +kernel
theorem d18 : decode yB 18 = .ok (.aload_n 1, 1) := by decide +kernel
theorem d19 : decode yB 19 = .ok (.iload_n 2, 1) := by decide +kernel
theorem d20 : decode yB 20 = .ok (.baload, 1) := by decide +kernel
theorem d21 : decode yB 21 = .ok (.if_icmp (.eq) 5, 3) := by decide +kernel
theorem d24 : decode yB 24 = .ok (.iconst 0, 1) := by decide +kernel
theorem d25 : decode yB 25 = .ok (.ireturn, 1) := by decide +kernel
theorem d26 : decode yB 26 = .ok (.iinc 2 1, 3) := by decide +kernel
theorem d29 : decode yB 29 = .ok (.goto (-20), 3) := by decide +kernel
theorem d32 : decode yB 32 = .ok (.iconst 1, 1) := by decide +kernel
theorem d33 : decode yB 33 = .ok (.ireturn, 1) := by decide +kernel
theorem d34 : decode yB 34 = .ok (.iconst 0, 1) := by decide +kernel
theorem d35 : decode yB 35 = .ok (.ireturn, 1) := by decide +kernel
def site : List Cond := []
def tab : Cond := tabOf yN yB 3 (some .boolean) site
def P (a : Addr) (A : Cell) (b : Addr) (B : Cell) (args : Array Value) (s : State) : Prop := args = #[.ref a, .ref b] ∧ XT.Arr .byte a A s ∧ Typed .byte A ∧ XT.Arr .byte b B s ∧ Typed .byte B
/-- whether two byte[] are equal, place for place -/
theorem law (l : Launch) (a : Addr) (A : Cell) (b : Addr) (B : Cell) : Law l yN 2 2 0 0 yB 3 (some .boolean) site (P a A b B) (Says01 (EqC A B)) [] 0 0 := by
  refine Law.of_walk (plainFor_of_name (by decide +kernel)) (by decide +kernel) (by decide +kernel) (by decide) (fun _ _ h => by rw [h.1]; rfl) (fun _ U U' hal hh h => ⟨h.1, h.2.1.mv hal hh, h.2.2.1, h.2.2.2.1.mv hal hh, h.2.2.2.2⟩) (fun r U U' V V' h1 hal h2 h => Says01.mv r U U' V V' h1 hal h2 h) ?_
  intro p e s m args below meth c s₁ X0 hexec hbytes hml hret hlk hnm hown hh0 W hP
  obtain ⟨rfl, hA, tA, hB, tB⟩ := hP
  have a31 := hA.2.2.2
  have b31 := hB.2.2.2
  have hA0 := hA.mv X0.warmed.alike hh0
  have hB0 := hB.mv X0.warmed.alike hh0
  have c1 : Steps p.tables e below (s₁.setTop (entryFrame m #[.ref a, .ref b] 3)) (s₁.setTop (mkF m 0 #[.val (.ref a), .val (.ref b), .unset] [])) := entry rfl
  have c2 : Steps p.tables e below (s₁.setTop (entryFrame m #[.ref a, .ref b] 3)) (s₁.setTop (mkF m 4 #[.val (.ref a), .val (.ref b), .unset] [.int (Int32.ofNat B.slots.size), .int (Int32.ofNat A.slots.size)])) := c1.trans (by
    refine XS.aloadN X0.here hexec rfl (hb hbytes d0) rfl rfl ?_
    refine X0.alen hexec hA0 rfl rfl (hb hbytes d1) ?_
    refine XS.aloadN X0.here hexec rfl (hb hbytes d2) rfl rfl ?_
    refine X0.alen hexec hB0 rfl rfl (hb hbytes d3) ?_
    exact Steps.refl _)
  by_cases hs : A.slots.size = B.slots.size
  · have c3 : Steps p.tables e below (s₁.setTop (entryFrame m #[.ref a, .ref b] 3)) (s₁.setTop (mkF m 9 #[.val (.ref a), .val (.ref b), .val (.int 0)] [])) := c2.trans (by
      refine XS.icmpNo X0.here hexec rfl (hb hbytes d4) rfl (ii_ne_f (by rw [hs])) ?_
      refine iconstV X0.here hexec rfl 0 (hb hbytes d7) (by decide) ?_
      refine XS.istoreN X0.here hexec rfl (hb hbytes d8) rfl rfl ?_
      exact Steps.refl _)
    have loop : ∀ (r i : Nat), i + r = A.slots.size → (∀ j, j < i → yv A j = yv B j) → Steps p.tables e below (s₁.setTop (entryFrame m #[.ref a, .ref b] 3)) (s₁.setTop (mkF m 9 #[.val (.ref a), .val (.ref b), .val (.int (Int32.ofNat i))] [])) → ∃ (pc : Nat) (Ls : Array Slot) (v : Int32), (pc = 25 ∨ pc = 33) ∧ ((v = 1 ∧ EqC A B) ∨ (v = 0 ∧ ¬ EqC A B)) ∧ Steps p.tables e below (s₁.setTop (entryFrame m #[.ref a, .ref b] 3)) (s₁.setTop (mkF m pc Ls [.int v])) := by
      intro r
      induction r with
      | zero =>
        intro i hi he cl
        exact ⟨33, _, 1, Or.inr rfl, Or.inl ⟨rfl, hs, fun j hj => he j (by omega)⟩, cl.trans (by
          refine XS.iloadN X0.here hexec rfl (hb hbytes d9) rfl ?_
          refine XS.aloadN X0.here hexec rfl (hb hbytes d10) rfl rfl ?_
          refine X0.alen hexec hA0 rfl rfl (hb hbytes d11) ?_
          refine XS.icmpYes X0.here hexec rfl (pc0 := 12) rfl (hb hbytes d12) rfl (ii_ge_t (nlt32 (by omega) (by omega))) (by decide) rfl ?_
          refine iconstV X0.here hexec rfl 1 (hb hbytes d32) (by decide) ?_
          exact Steps.refl _)⟩
      | succ r ih =>
        intro i hi he cl
        have c4 : Steps p.tables e below (s₁.setTop (entryFrame m #[.ref a, .ref b] 3)) (s₁.setTop (mkF m 21 #[.val (.ref a), .val (.ref b), .val (.int (Int32.ofNat i))] [.int (yv B i), .int (yv A i)])) := cl.trans (by
          refine XS.iloadN X0.here hexec rfl (hb hbytes d9) rfl ?_
          refine XS.aloadN X0.here hexec rfl (hb hbytes d10) rfl rfl ?_
          refine X0.alen hexec hA0 rfl rfl (hb hbytes d11) ?_
          refine XS.icmpNo X0.here hexec rfl (hb hbytes d12) rfl (ii_ge_f (lt32 (by omega) (by omega))) ?_
          refine XS.aloadN X0.here hexec rfl (hb hbytes d15) rfl rfl ?_
          refine XS.iloadN X0.here hexec rfl (hb hbytes d16) rfl ?_
          refine X0.aget hexec hA0 rfl (yv_get hA tA (i := i) (by omega)) rfl rfl (hb hbytes d17) ?_
          refine XS.aloadN X0.here hexec rfl (hb hbytes d18) rfl rfl ?_
          refine XS.iloadN X0.here hexec rfl (hb hbytes d19) rfl ?_
          refine X0.aget hexec hB0 rfl (yv_get hB tB (i := i) (by omega)) rfl rfl (hb hbytes d20) ?_
          exact Steps.refl _)
        by_cases hv : yv A i = yv B i
        · have c5 : Steps p.tables e below (s₁.setTop (entryFrame m #[.ref a, .ref b] 3)) (s₁.setTop (mkF m 9 #[.val (.ref a), .val (.ref b), .val (.int (Int32.ofNat i + 1))] [])) := c4.trans (by
            refine XS.icmpYes X0.here hexec rfl (pc0 := 21) rfl (hb hbytes d21) rfl (ii_eq_t hv) (by decide) rfl ?_
            refine iincV X0.here hexec rfl 1 (hb hbytes d26) (by decide) rfl rfl ?_
            refine XS.goto X0.here hexec rfl (pc0 := 29) rfl (hb hbytes d29) (by decide) rfl ?_
            exact Steps.refl _)
          rw [succ32] at c5
          exact ih (i + 1) (by omega) (fun j hj => by
            by_cases e : j = i
            · rw [e]; exact hv
            · exact he j (by omega)) c5
        · exact ⟨25, _, 0, Or.inl rfl, Or.inr ⟨rfl, fun q => hv (q.2 i (by omega))⟩, c4.trans (by
            refine XS.icmpNo X0.here hexec rfl (hb hbytes d21) rfl (ii_eq_f hv) ?_
            refine iconstV X0.here hexec rfl 0 (hb hbytes d24) (by decide) ?_
            exact Steps.refl _)⟩
    obtain ⟨pc, Ls, v, hpc, hv, cz⟩ := loop A.slots.size 0 (by omega) (fun j hj => absurd hj (Nat.not_lt_zero j)) c3
    have nv : narrow .boolean (.int v) = .int v := by rcases hv with ⟨rfl, -⟩ | ⟨rfl, -⟩ <;> rfl
    rcases hpc with rfl | rfl
    · exact ⟨s₁, some (.int v), _, _, _, X0, rfl, rfl, rfl, (fun h => by cases h), ⟨v, rfl, hh0, hv⟩, fun fs hl => cz.trans (X0.ireturnOut hexec hret nv (Or.inr (Or.inl rfl)) (hb hbytes d25) hl)⟩
    · exact ⟨s₁, some (.int v), _, _, _, X0, rfl, rfl, rfl, (fun h => by cases h), ⟨v, rfl, hh0, hv⟩, fun fs hl => cz.trans (X0.ireturnOut hexec hret nv (Or.inr (Or.inl rfl)) (hb hbytes d33) hl)⟩
  · have c3 : Steps p.tables e below (s₁.setTop (entryFrame m #[.ref a, .ref b] 3)) (s₁.setTop (mkF m 35 #[.val (.ref a), .val (.ref b), .unset] [.int 0])) := c2.trans (by
      refine XS.icmpYes X0.here hexec rfl (pc0 := 4) rfl (hb hbytes d4) rfl (ii_ne_t (ne32 a31 b31 hs)) (by decide) rfl ?_
      refine iconstV X0.here hexec rfl 0 (hb hbytes d34) (by decide) ?_
      exact Steps.refl _)
    exact ⟨s₁, some (.int 0), _, _, _, X0, rfl, rfl, rfl, (fun h => by cases h), ⟨0, rfl, hh0, Or.inr ⟨rfl, fun q => hs q.1⟩⟩, fun fs hl => c3.trans (X0.ireturnOut hexec hret rfl (Or.inr (Or.inl rfl)) (hb hbytes d35) hl)⟩
end LEq
theorem Cod.ty {cd : Int32} {n : Nat} {f : Nat → Int32} {V : Cell} (h : Cod cd n f V) : Typed .byte V := fun i v hv => by
  have hi : i < V.slots.size := (Array.getElem?_eq_some_iff.mp hv).1
  rcases h with ⟨-, k1, k2⟩ | ⟨-, k1, k2, -⟩
  · rw [(k2 i (by omega)).1] at hv; cases hv; exact fits_lo8 _
  · rcases Nat.mod_two_eq_zero_or_one i with e | e
    · obtain ⟨j, rfl⟩ : ∃ j, i = 2 * j := ⟨i / 2, by omega⟩
      rw [(k2 j (by omega)).1] at hv; cases hv; exact fits_lo8 _
    · obtain ⟨j, rfl⟩ : ∃ j, i = 2 * j + 1 := ⟨i / 2, by omega⟩
      rw [(k2 j (by omega)).2] at hv; cases hv; exact fits_lo8 _
/-- the same text -/
def SameT (n : Nat) (f : Nat → Int32) (k : Nat) (g : Nat → Int32) : Prop := n = k ∧ ∀ j, j < n → f j = g j
theorem lo8_inj {x y : Int32} (h0 : ¬ x < 0) (h1 : ¬ 255 < x) (k0 : ¬ y < 0) (k1 : ¬ 255 < y) (h : lo8 x = lo8 y) : x = y := by
  rw [← lo8_mask h0 h1, ← lo8_mask k0 k1, h]
/-- arrays coded by one coder are equal just where the texts are -/
theorem Cod.eqv {cd : Int32} {n k : Nat} {f g : Nat → Int32} {V V' : Cell} (h : Cod cd n f V) (h' : Cod cd k g V') (hf : ∀ j, j < n → ¬ f j < 0 ∧ ¬ 65535 < f j) (hg : ∀ j, j < k → ¬ g j < 0 ∧ ¬ 65535 < g j) : EqC V V' ↔ SameT n f k g := by
  have yvv : ∀ {W : Cell} {i : Nat} {x : Int32}, W.slots[i]? = some (.int x) → yv W i = x := fun q => by unfold yv; rw [q]
  rcases h with ⟨rfl, k1, k2⟩ | ⟨rfl, k1, k2, -⟩
  · rcases h' with ⟨-, m1, m2⟩ | ⟨e, -⟩
    · constructor
      · rintro ⟨e1, e2⟩
        refine ⟨by omega, fun j hj => ?_⟩
        have q := e2 j (by omega)
        rw [yvv (k2 j hj).1, yvv (m2 j (by omega)).1] at q
        exact lo8_inj (hf j hj).1 (k2 j hj).2 (hg j (by omega)).1 (m2 j (by omega)).2 q
      · rintro ⟨rfl, e2⟩
        refine ⟨by omega, fun j hj => ?_⟩
        rw [yvv (k2 j (by omega)).1, yvv (m2 j (by omega)).1, e2 j (by omega)]
    · exact absurd e (by decide)
  · rcases h' with ⟨e, -⟩ | ⟨-, m1, m2, -⟩
    · exact absurd e (by decide)
    · constructor
      · rintro ⟨e1, e2⟩
        refine ⟨by omega, fun j hj => ?_⟩
        have q1 := e2 (2 * j) (by omega)
        have q2 := e2 (2 * j + 1) (by omega)
        rw [yvv (k2 j hj).1, yvv (m2 j (by omega)).1] at q1
        rw [yvv (k2 j hj).2, yvv (m2 j (by omega)).2] at q2
        rw [← pair_says (hf j hj).1 (hf j hj).2, ← pair_says (hg j (by omega)).1 (hg j (by omega)).2, q1, q2]
      · rintro ⟨rfl, e2⟩
        refine ⟨by omega, fun i hi => ?_⟩
        rcases Nat.mod_two_eq_zero_or_one i with e | e
        · obtain ⟨j, rfl⟩ : ∃ j, i = 2 * j := ⟨i / 2, by omega⟩
          rw [yvv (k2 j (by omega)).1, yvv (m2 j (by omega)).1, e2 j (by omega)]
        · obtain ⟨j, rfl⟩ : ∃ j, i = 2 * j + 1 := ⟨i / 2, by omega⟩
          rw [yvv (k2 j (by omega)).2, yvv (m2 j (by omega)).2, e2 j (by omega)]
/-- two codings differ: so do the texts -/
theorem Cod.dif {cd cd' : Int32} {n k : Nat} {f g : Nat → Int32} {V V' : Cell} (h : Cod cd n f V) (h' : Cod cd' k g V') (hne : ¬ cd = cd') : ¬ SameT n f k g := by
  rintro ⟨rfl, e⟩
  rcases h with ⟨rfl, -, k2⟩ | ⟨rfl, -, -, j, hj, hw⟩
  · rcases h' with ⟨rfl, -⟩ | ⟨-, -, -, j, hj, hw⟩
    · exact hne rfl
    · exact (k2 j hj).2 (by rw [e j hj]; exact hw)
  · rcases h' with ⟨-, -, m2⟩ | ⟨rfl, -⟩
    · exact (m2 j hj).2 (by rw [← e j hj]; exact hw)
    · exact hne rfl
/-- an object of exactly C is an instance of C -/
theorem cinst {p : Program} {l : Launch} {e : Env} {R : Room} {s : State} {m : MethodId} {args : Array Value} {below : List Frame} {meth : Method} {c : Code} {T : State} {locs : List Loc} {cells slots : Nat} (X : Stand p l e R s m args below meth c T locs cells slots) (hexec : p.tables.exec = Jvm.exec) {own C : String} {index : Nat} (hown : s.vm.findClass own = some m.cls) (hlink : (Cond.classLink own index C).before args s = true) {a : Addr} (hE : Exact C a T)
    {g : JFrame} (hg : g.method = m) {rest : List Value} (hstack : g.stack = .ref a :: rest) (hdg : decode c.code g.pc = .ok (.instanceof index, 3)) :
    ∃ T', Stand p l e R s m args below meth c T' locs cells slots ∧ T'.heap = T.heap ∧ ∀ target, Steps p.tables e below (T'.setTop { g with pc := g.pc + 3, stack := .int 1 :: rest }) target → Steps p.tables e below (T.setTop g) target := by
  obtain ⟨cB, h1, D, h2, h3, h4⟩ := hE
  have h1' : s.vm.findClass C = some cB := by rw [← X.warmed.alike.findClass]; exact h1
  obtain ⟨vm', X', st⟩ := X.instanceofYes hexec hown hlink h2 h4 h1' (by rw [h3]; exact Jvm.Free.SB.assignable_self _ _) hg hstack hdg
  exact ⟨_, X', rfl, st⟩
theorem cself {p : Program} {l : Launch} {e : Env} {R : Room} {s : State} {m : MethodId} {args : Array Value} {below : List Frame} {meth : Method} {c : Code} {T : State} {locs : List Loc} {cells slots : Nat} (X : Stand p l e R s m args below meth c T locs cells slots) (hexec : p.tables.exec = Jvm.exec) {own C : String} {index : Nat} (hown : s.vm.findClass own = some m.cls) (hlink : (Cond.classLink own index C).before args s = true) {a : Addr} (hE : Exact C a T)
    {g : JFrame} (hg : g.method = m) {rest : List Value} (hstack : g.stack = .ref a :: rest) (hdg : decode c.code g.pc = .ok (.checkcast index, 3)) :
    ∃ T', Stand p l e R s m args below meth c T' locs cells slots ∧ T'.heap = T.heap ∧ ∀ target, Steps p.tables e below (T'.setTop { g with pc := g.pc + 3, stack := .ref a :: rest }) target → Steps p.tables e below (T.setTop g) target := by
  obtain ⟨cB, h1, D, h2, h3, h4⟩ := hE
  have h1' : s.vm.findClass C = some cB := by rw [← X.warmed.alike.findClass]; exact h1
  obtain ⟨vm', X', st⟩ := X.checkcastYes hexec hown hlink h2 h4 h1' (by rw [h3]; exact Jvm.Free.SB.assignable_self _ _) hg hstack hdg
  exact ⟨_, X', rfl, fun t h => st t (by rw [← hstack] at h; exact h)⟩
namespace SEq
def yN : MethodName := ⟨"java/lang/String", "equals", "(Ljava/lang/Object;)Z"⟩
abbrev yB : ByteArray := jdk_42_method_66_code
theorem d0 : decode yB 0 = .ok (.aload_n 0, 1) := by decide +kernel
theorem d1 : decode yB 1 = .ok (.aload_n 1, 1) := by decide +kernel
theorem d2 : decode yB 2 = .ok (.if_acmp (.ne) 5, 3) := by decide +kernel
theorem d5 : decode yB 5 = .ok (.iconst 1, 1) := by decide +kernel
theorem d6 : decode yB 6 = .ok (.ireturn, 1) := by decide +kernel
theorem d7 : decode yB 7 = .ok (.aload_n 1, 1) := by decide +kernel
theorem d8 : decode yB 8 = .ok (.instanceof 10, 3) := by decide +kernel
theorem d11 : decode yB 11 = .ok (.ifCond (.eq) 43, 3) := by decide +kernel
theorem d14 : decode yB 14 = .ok (.aload_n 1, 1) := by decide +kernel
theorem d15 : decode yB 15 = .ok (.checkcast 10, 3) := by decide +kernel
theorem d18 : decode yB 18 = .ok (.astore_n 2, 1) := by decide +kernel
theorem d19 : decode yB 19 = .ok (.getstatic 38, 3) := by decide +kernel
theorem d22 : decode yB 22 = .ok (.ifCond (.eq) 14, 3) := by decide +kernel
theorem d25 : decode yB 25 = .ok (.aload_n 0, 1) := by decide +kernel
theorem d26 : decode yB 26 = .ok (.getfield 15, 3) := by decide +kernel
theorem d29 : decode yB 29 = .ok (.aload_n 2, 1) := by decide +kernel
theorem d30 : decode yB 30 = .ok (.getfield 15, 3) := by decide +kernel
theorem d33 : decode yB 33 = .ok (.if_icmp (.ne) 21, 3) := by decide +kernel
theorem d36 : decode yB 36 = .ok (.aload_n 0, 1) := by decide +kernel
theorem d37 : decode yB 37 = .ok (.getfield 9, 3) := by decide +kernel
theorem d40 : decode yB 40 = .ok (.aload_n 2, 1) := by decide +kernel
theorem d41 : decode yB 41 = .ok (.getfield 9, 3) := by decide +kernel
theorem d44 : decode yB 44 = .ok (.invokestatic 541, 3) := by decide +kernel
theorem d47 : decode yB 47 = .ok (.ifCond (.eq) 7, 3) := by decide +kernel
theorem d50 : decode yB 50 = .ok (.iconst 1, 1) := by decide +kernel
theorem d51 : decode yB 51 = .ok (.goto 4, 3) := by decide +kernel
theorem d54 : decode yB 54 = .ok (.iconst 0, 1) := by decide +kernel
theorem d55 : decode yB 55 = .ok (.ireturn, 1) := by decide +kernel
def site : List Cond := [.classLink "java/lang/String" 10 "java/lang/String", .fieldLink "java/lang/String" 38 "java/lang/String" "COMPACT_STRINGS" "Z", .fieldLink "java/lang/String" 15 "java/lang/String" "coder" "B", .fieldLink "java/lang/String" 9 "java/lang/String" "value" "[B", LEq.tab] ++ staticW "java/lang/String" 541 LEq.yN
def tab : Cond := tabOf yN yB 3 (some .boolean) site
def P (x t : Addr) (V : Cell) (cd : Int32) (n : Nat) (f : Nat → Int32) (y t' : Addr) (V' : Cell) (cd' : Int32) (k : Nat) (g : Nat → Int32) (z : Int32) (args : Array Value) (s : State) : Prop := args = #[.ref x, .ref y] ∧ Txt x t V cd n f s ∧ Txt y t' V' cd' k g s ∧ StaticIs s "java/lang/String" "COMPACT_STRINGS" "Z" (.int z) ∧ ¬ z = 0
/-- equals(Object) of two Strings: whether the texts are the same -/
theorem law (l : Launch) (x t : Addr) (V : Cell) (cd : Int32) (n : Nat) (f : Nat → Int32) (y t' : Addr) (V' : Cell) (cd' : Int32) (k : Nat) (g : Nat → Int32) (z : Int32) : Law l yN 2 1 1 14 yB 3 (some .boolean) site (P x t V cd n f y t' V' cd' k g z) (Says01 (SameT n f k g)) [] 0 0 := by
  refine Law.of_walk (plainFor_of_name (by decide +kernel)) (by decide +kernel) (by decide +kernel) (by decide) (fun _ _ h => by rw [h.1]; rfl) (fun _ U U' hal hh h => ⟨h.1, h.2.1.mv hal hh, h.2.2.1.mv hal hh, h.2.2.2.1.there hal hh, h.2.2.2.2⟩) (fun r U U' V V' h1 hal h2 h => Says01.mv r U U' V V' h1 hal h2 h) ?_
  intro p e s m args below meth c s₁ X0 hexec hbytes hml hret hlk hnm hown hh0 W hP
  obtain ⟨rfl, hx, hy, s1, hz⟩ := hP
  have c1 : Steps p.tables e below (s₁.setTop (entryFrame m #[.ref x, .ref y] 3)) (s₁.setTop (mkF m 2 #[.val (.ref x), .val (.ref y), .unset] [.ref y, .ref x])) := Steps.trans (entry rfl) (by
    show Steps p.tables e below (s₁.setTop (mkF m 0 #[.val (.ref x), .val (.ref y), .unset] [])) _
    refine XS.aloadN X0.here hexec rfl (hb hbytes d0) rfl rfl ?_
    refine XS.aloadN X0.here hexec rfl (hb hbytes d1) rfl rfl ?_
    exact Steps.refl _)
  by_cases hxy : x = y
  · have c2 : Steps p.tables e below (s₁.setTop (entryFrame m #[.ref x, .ref y] 3)) (s₁.setTop (mkF m 6 #[.val (.ref x), .val (.ref y), .unset] [.int 1])) := c1.trans (by
      refine acmpNo X0.here hexec rfl (hb hbytes d2) rfl rfl rfl (by simp [acmp, hxy]) ?_
      refine iconstV X0.here hexec rfl 1 (hb hbytes d5) (by decide) ?_
      exact Steps.refl _)
    subst hxy
    have ec : cd = cd' := by
      obtain ⟨D, fd, a1, a2, a3⟩ := hx.2.2.1
      obtain ⟨D', fd', b1, b2, b3⟩ := hy.2.2.1
      cases a1.symm.trans b1
      obtain ⟨q1, q2, q3, q4⟩ := a2.1
      obtain ⟨r1, r2, r3, r4⟩ := b2.1
      cases q4.symm.trans r4
      cases a3.symm.trans b3; rfl
    have et : t = t' := by
      obtain ⟨D, fd, a1, a2, a3⟩ := hx.2.1
      obtain ⟨D', fd', b1, b2, b3⟩ := hy.2.1
      cases a1.symm.trans b1
      obtain ⟨q1, q2, q3, q4⟩ := a2.1
      obtain ⟨r1, r2, r3, r4⟩ := b2.1
      cases q4.symm.trans r4
      cases a3.symm.trans b3; rfl
    subst ec et
    have ev : V = V' := by cases hx.2.2.2.1.1.symm.trans hy.2.2.2.1.1; rfl
    subst ev
    have hs : SameT n f k g := (Cod.eqv hx.2.2.2.2.1 hy.2.2.2.2.1 hx.2.2.2.2.2 hy.2.2.2.2.2).mp ⟨rfl, fun _ _ => rfl⟩
    exact ⟨s₁, some (.int 1), _, _, _, X0, rfl, rfl, rfl, (fun h => by cases h), ⟨1, rfl, hh0, Or.inl ⟨rfl, hs⟩⟩, fun fs hl => c2.trans (X0.ireturnOut hexec hret rfl (Or.inr (Or.inl rfl)) (hb hbytes d6) hl)⟩
  · have c2 : Steps p.tables e below (s₁.setTop (entryFrame m #[.ref x, .ref y] 3)) (s₁.setTop (mkF m 8 #[.val (.ref x), .val (.ref y), .unset] [.ref y])) := c1.trans (by
      refine acmpYes X0.here hexec rfl (pc0 := 2) rfl (hb hbytes d2) rfl rfl rfl (by simp [acmp, hxy]) (by decide) rfl ?_
      refine XS.aloadN X0.here hexec rfl (hb hbytes d7) rfl rfl ?_
      exact Steps.refl _)
    obtain ⟨T3, X3, q3, st3⟩ := cinst X0 hexec hown (wk W (.classLink "java/lang/String" 10 "java/lang/String")) (hy.mv X0.warmed.alike hh0).1 (g := (mkF m 8 #[.val (.ref x), .val (.ref y), .unset] [.ref y])) rfl (rest := []) rfl (hb hbytes d8)
    have hh3 := q3.trans hh0
    have c4 : Steps p.tables e below (s₁.setTop (entryFrame m #[.ref x, .ref y] 3)) (T3.setTop (mkF m 15 #[.val (.ref x), .val (.ref y), .unset] [.ref y])) := (c2.trans (st3 _ (Steps.refl _))).trans (by
      refine XS.ifNo X3.here hexec rfl (hb hbytes d11) rfl (i0_eq_f (by decide)) ?_
      refine XS.aloadN X3.here hexec rfl (hb hbytes d14) rfl rfl ?_
      exact Steps.refl _)
    obtain ⟨T5, X5, q5, st5⟩ := cself X3 hexec hown (wk W (.classLink "java/lang/String" 10 "java/lang/String")) (hy.mv X3.warmed.alike hh3).1 (g := (mkF m 15 #[.val (.ref x), .val (.ref y), .unset] [.ref y])) rfl (rest := []) rfl (hb hbytes d15)
    have hh5 := q5.trans hh3
    have c6 : Steps p.tables e below (s₁.setTop (entryFrame m #[.ref x, .ref y] 3)) (T5.setTop (mkF m 19 #[.val (.ref x), .val (.ref y), .val (.ref y)] [])) := (c4.trans (st5 _ (Steps.refl _))).trans (by
      refine XS.astoreN X5.here hexec rfl (hb hbytes d18) rfl rfl rfl ?_
      exact Steps.refl _)
    obtain ⟨T7, X7, q7, st7⟩ := X5.sget hexec hown (wk W (.fieldLink "java/lang/String" 38 "java/lang/String" "COMPACT_STRINGS" "Z")) s1 (fun _ _ h => by rw [hh5]; exact h) (g := (mkF m 19 #[.val (.ref x), .val (.ref y), .val (.ref y)] [])) rfl (hb hbytes d19)
    have hh7 := q7.trans hh5
    have c8 : Steps p.tables e below (s₁.setTop (entryFrame m #[.ref x, .ref y] 3)) (T7.setTop (mkF m 26 #[.val (.ref x), .val (.ref y), .val (.ref y)] [.ref x])) := (c6.trans (st7 _ (Steps.refl _))).trans (by
      refine XS.ifNo X7.here hexec rfl (hb hbytes d22) rfl (i0_eq_f hz) ?_
      refine XS.aloadN X7.here hexec rfl (hb hbytes d25) rfl rfl ?_
      exact Steps.refl _)
    obtain ⟨T9, X9, q9, st9⟩ := X7.hget hexec hown (wk W (.fieldLink "java/lang/String" 15 "java/lang/String" "coder" "B")) (hx.mv X7.warmed.alike hh7).2.2.1 (g := (mkF m 26 #[.val (.ref x), .val (.ref y), .val (.ref y)] [.ref x])) rfl (rest := []) rfl (hb hbytes d26)
    have hh9 := q9.trans hh7
    have c10 : Steps p.tables e below (s₁.setTop (entryFrame m #[.ref x, .ref y] 3)) (T9.setTop (mkF m 30 #[.val (.ref x), .val (.ref y), .val (.ref y)] [.ref y, .int cd])) := (c8.trans (st9 _ (Steps.refl _))).trans (by
      refine XS.aloadN X9.here hexec rfl (hb hbytes d29) rfl rfl ?_
      exact Steps.refl _)
    obtain ⟨T11, X11, q11, st11⟩ := X9.hget hexec hown (wk W (.fieldLink "java/lang/String" 15 "java/lang/String" "coder" "B")) (hy.mv X9.warmed.alike hh9).2.2.1 (g := (mkF m 30 #[.val (.ref x), .val (.ref y), .val (.ref y)] [.ref y, .int cd])) rfl (rest := [.int cd]) rfl (hb hbytes d30)
    have hh11 := q11.trans hh9
    have c12 : Steps p.tables e below (s₁.setTop (entryFrame m #[.ref x, .ref y] 3)) (T11.setTop (mkF m 33 #[.val (.ref x), .val (.ref y), .val (.ref y)] [.int cd', .int cd])) := c10.trans (st11 _ (Steps.refl _))
    by_cases hcd : cd = cd'
    · subst hcd
      have c13 : Steps p.tables e below (s₁.setTop (entryFrame m #[.ref x, .ref y] 3)) (T11.setTop (mkF m 37 #[.val (.ref x), .val (.ref y), .val (.ref y)] [.ref x])) := c12.trans (by
        refine XS.icmpNo X11.here hexec rfl (hb hbytes d33) rfl (ii_ne_f rfl) ?_
        refine XS.aloadN X11.here hexec rfl (hb hbytes d36) rfl rfl ?_
        exact Steps.refl _)
      obtain ⟨T14, X14, q14, st14⟩ := X11.hget hexec hown (wk W (.fieldLink "java/lang/String" 9 "java/lang/String" "value" "[B")) (hx.mv X11.warmed.alike hh11).2.1 (g := (mkF m 37 #[.val (.ref x), .val (.ref y), .val (.ref y)] [.ref x])) rfl (rest := []) rfl (hb hbytes d37)
      have hh14 := q14.trans hh11
      have c15 : Steps p.tables e below (s₁.setTop (entryFrame m #[.ref x, .ref y] 3)) (T14.setTop (mkF m 41 #[.val (.ref x), .val (.ref y), .val (.ref y)] [.ref y, .ref t])) := (c13.trans (st14 _ (Steps.refl _))).trans (by
        refine XS.aloadN X14.here hexec rfl (hb hbytes d40) rfl rfl ?_
        exact Steps.refl _)
      obtain ⟨T16, X16, q16, st16⟩ := X14.hget hexec hown (wk W (.fieldLink "java/lang/String" 9 "java/lang/String" "value" "[B")) (hy.mv X14.warmed.alike hh14).2.1 (g := (mkF m 41 #[.val (.ref x), .val (.ref y), .val (.ref y)] [.ref y, .ref t])) rfl (rest := [.ref t]) rfl (hb hbytes d41)
      have hh16 := q16.trans hh14
      have c17 : Steps p.tables e below (s₁.setTop (entryFrame m #[.ref x, .ref y] 3)) (T16.setTop (mkF m 44 #[.val (.ref x), .val (.ref y), .val (.ref y)] [.ref t', .ref t])) := c15.trans (st16 _ (Steps.refl _))
      obtain ⟨v18, T18, X18, E18, g18⟩ := X16.callS hexec (LEq.law l t V t' V') hown (wks W (staticW "java/lang/String" 541 LEq.yN)) (wk W LEq.tab) (W := 0) (Nat.le_of_ble_eq_true rfl) (Nat.le_of_ble_eq_true rfl) (Nat.le_refl _) (Nat.le_refl _) (g := (mkF m 44 #[.val (.ref x), .val (.ref y), .val (.ref y)] [.ref t', .ref t])) rfl (by rw [hml]; rfl) c17 (argsL := [.ref t, .ref t']) (rest := []) rfl rfl (by show 2 * 0 + 0 ≤ _; decide) (hb hbytes d44) (⟨rfl, hx.2.2.2.1.mv X16.warmed.alike hh16, hx.2.2.2.2.1.ty, hy.2.2.2.1.mv X16.warmed.alike hh16, hy.2.2.2.2.1.ty⟩)
      obtain ⟨v, rfl, q18, hv⟩ := E18
      have iff := Cod.eqv hx.2.2.2.2.1 hy.2.2.2.2.1 hx.2.2.2.2.2 hy.2.2.2.2.2
      rcases hv with ⟨rfl, he⟩ | ⟨rfl, he⟩
      · have c19 : Steps p.tables e below (s₁.setTop (entryFrame m #[.ref x, .ref y] 3)) (T18.setTop (mkF m 55 #[.val (.ref x), .val (.ref y), .val (.ref y)] [.int 1])) := Steps.trans g18 (by
          refine XS.ifNo X18.here hexec rfl (hb hbytes d47) rfl (i0_eq_f (by decide)) ?_
          refine iconstV X18.here hexec rfl 1 (hb hbytes d50) (by decide) ?_
          refine XS.goto X18.here hexec rfl (pc0 := 51) rfl (hb hbytes d51) (by decide) rfl ?_
          exact Steps.refl _)
        exact ⟨T18, some (.int 1), _, _, _, X18, rfl, rfl, rfl, (fun h => by cases h), ⟨1, rfl, q18.trans hh16, Or.inl ⟨rfl, iff.mp he⟩⟩, fun fs hl => c19.trans (X18.ireturnOut hexec hret rfl (Or.inr (Or.inl rfl)) (hb hbytes d55) hl)⟩
      · have c19 : Steps p.tables e below (s₁.setTop (entryFrame m #[.ref x, .ref y] 3)) (T18.setTop (mkF m 55 #[.val (.ref x), .val (.ref y), .val (.ref y)] [.int 0])) := Steps.trans g18 (by
          refine XS.ifYes X18.here hexec rfl (pc0 := 47) rfl (hb hbytes d47) rfl (i0_eq_t rfl) (by decide) rfl ?_
          refine iconstV X18.here hexec rfl 0 (hb hbytes d54) (by decide) ?_
          exact Steps.refl _)
        exact ⟨T18, some (.int 0), _, _, _, X18, rfl, rfl, rfl, (fun h => by cases h), ⟨0, rfl, q18.trans hh16, Or.inr ⟨rfl, fun q => he (iff.mpr q)⟩⟩, fun fs hl => c19.trans (X18.ireturnOut hexec hret rfl (Or.inr (Or.inl rfl)) (hb hbytes d55) hl)⟩
    · have c13 : Steps p.tables e below (s₁.setTop (entryFrame m #[.ref x, .ref y] 3)) (T11.setTop (mkF m 55 #[.val (.ref x), .val (.ref y), .val (.ref y)] [.int 0])) := c12.trans (by
        refine XS.icmpYes X11.here hexec rfl (pc0 := 33) rfl (hb hbytes d33) rfl (ii_ne_t hcd) (by decide) rfl ?_
        refine iconstV X11.here hexec rfl 0 (hb hbytes d54) (by decide) ?_
        exact Steps.refl _)
      exact ⟨T11, some (.int 0), _, _, _, X11, rfl, rfl, rfl, (fun h => by cases h), ⟨0, rfl, hh11, Or.inr ⟨rfl, Cod.dif hx.2.2.2.2.1 hy.2.2.2.2.1 hcd⟩⟩, fun fs hl => c13.trans (X11.ireturnOut hexec hret rfl (Or.inr (Or.inl rfl)) (hb hbytes d55) hl)⟩
theorem pays {l : Launch} {R : Room} {p : Program} {e : Env} {below : List Frame} {s : State} {sargs : Array Value} {len W : Nat} (x t : Addr) (V : Cell) (cd : Int32) (n : Nat) (f : Nat → Int32) (y t' : Addr) (V' : Cell) (cd' : Int32) (k : Nat) (g : Nat → Int32) (z : Int32) (htab : tab.before sargs s = true) (hfr : 2 ≤ R.frames) (hlo : W + 28 ≤ R.locals) :
    Back l R p e below s sargs yN len W (fun A₁ a₁ => A₁.cells + 0 ≤ R.cells ∧ A₁.slots + 0 ≤ R.slots ∧ P x t V cd n f y t' V' cd' k g z a₁ A₁.U) (fun A₁ _ v₁ B₁ => Says01 (SameT n f k g) v₁ A₁.U B₁.U ∧ B₁.locs = A₁.locs ++ [] ∧ B₁.cells = A₁.cells + 0 ∧ B₁.slots = A₁.slots + 0) :=
  (law l x t V cd n f y t' V' cd' k g z).pays htab hfr (by omega)
end SEq
end StrChars
namespace StrChars.Road
open Jvm Sem ClassFile Op Lib Jvm.Stand Jvm.Free Jvm.Free.XT
open Jvm.Lib.Cold (StaticIs)
/-- the words of String.equals(Object) -/
abbrev wordsEq : List Jvm.Cond := [.code SEq.yN SEq.yB 3 (some .boolean), .initialized ST, .classLink ST 10 ST, .fieldLink ST 38 ST "COMPACT_STRINGS" "Z", .fieldLink ST 15 ST "coder" "B", .fieldLink ST 9 ST "value" "[B", .methodLink ST 541 LEq.yN, .static LEq.yN, .code LEq.yN LEq.yB 3 (some .boolean), .initialized "java/lang/StringLatin1"]
theorem tabEq_of {a : Array Value} {s : State} (h : ∀ w ∈ wordsEq, w.before a s = true) : SEq.tab.before a s = true := by
  have hl : LEq.tab.before a s = true := unparts (wk h (.code LEq.yN LEq.yB 3 (some .boolean))) (wks h (.initialized LEq.yN.cls :: LEq.site))
  have q := consq hl h
  exact unparts (wk q (.code SEq.yN SEq.yB 3 (some .boolean))) (wks q (.initialized SEq.yN.cls :: SEq.site))
theorem movedEq {Z s : State} {a0 args : Array Value} (hZ : Z.Warmed39 s.vm) (hw : ∀ d ∈ wordsEq, d.before a0 Z = true) : ∀ d ∈ wordsEq, d.before args s = true := fun d hd => by
  have t : ∀ d ∈ wordsEq, (d.onTables && d.keepsFace) = true := by decide +kernel
  exact RoadKit.mv hZ (hw d hd) (t d hd)
/-- the road's facts of a String, as the laws ask it -/
theorem txt_of {Z U : State} {a0 : Array Value} {kI : Nat} (wi : (Jvm.Cond.instantiable ST kI).before a0 Z = true) (al : Z.vm.Alike U.vm) {x t : Addr} {kb : ClassId} {cs : List Int32} {cd N2 : Int32} {vs : List Value} (E : RoadKit.Exa Z U.heap x ST) (V : RoadKit.Fld Z U.heap x ST "value" "[B" (.ref t)) (C : RoadKit.Fld Z U.heap x ST "coder" "B" (.int cd)) (K : RoadKit.Arv Z U.heap t kb .byte N2 vs (.int 0)) (hc : CodA cs cd N2 vs) (hb : ∀ c ∈ cs, ¬ c < 0 ∧ ¬ (65535 : Int32) < c) (l2 : cs.length ≤ 4000) :
    ∃ A, Txt x t A cd cs.length (fun j => cs.getD j 0) U := by
  obtain ⟨A, K1, K2, K3, K4, K5, K6⟩ := K
  have hcod := hc.cod (by omega) K3 K5
  obtain ⟨D, fV, fC, hB, F1, F2, g1, g2, -, -⟩ := strObj wi al E V C
  exact ⟨A, ⟨_, hB.2.2.1, D, hB.1, rfl, by cases q : D.vm <;> first | rfl | exact absurd q (hB.2.1.2 _)⟩, Has.of hB F1 g1, Has.of hB F2 g2, ⟨K1.1, State.isArrayOf_alike al K1.2.1, K1.2.2, by rcases hcod with ⟨-, q, -⟩ | ⟨-, q, -⟩ <;> omega⟩, hcod, fun j hj => by
    have e : cs.getD j 0 = cs[j] := by simp [List.getD_eq_getElem?_getD, hj]
    show ¬ cs.getD j 0 < 0 ∧ ¬ 65535 < cs.getD j 0
    rw [e]; exact hb _ (List.getElem_mem _)⟩
theorem same_list (cs ds : List Int32) : SameT cs.length (fun j => cs.getD j 0) ds.length (fun j => ds.getD j 0) ↔ cs = ds := by
  constructor
  · rintro ⟨e, q⟩
    refine List.ext_getElem e fun j h1 h2 => ?_
    have := q j h1
    simpa [List.getD_eq_getElem?_getD, h1, h2] using this
  · rintro rfl
    exact ⟨rfl, fun _ _ => rfl⟩
/-- **equals(Object) OF TWO SUCH STRINGS**: 1 just where the chars are the same -/
theorem eqW {p : Program} {l : Launch} {e : Env} {R : Room} {s : State} {args : Array Value} {below : List Frame} {len W : Nat} {Z : State} {a0 : Array Value} {h : Heap} (hZ : Z.Warmed39 s.vm) (hw : ∀ d ∈ wordsEq, d.before a0 Z = true) {kI : Nat} (wi : (Jvm.Cond.instantiable ST kI).before a0 Z = true)
    {x t : Addr} {kb : ClassId} {cs : List Int32} {cd N2 : Int32} {vs : List Value} (E : RoadKit.Exa Z h x ST) (V : RoadKit.Fld Z h x ST "value" "[B" (.ref t)) (C : RoadKit.Fld Z h x ST "coder" "B" (.int cd)) (K : RoadKit.Arv Z h t kb .byte N2 vs (.int 0)) (hc : CodA cs cd N2 vs) (hb : ∀ c ∈ cs, ¬ c < 0 ∧ ¬ (65535 : Int32) < c) (l2 : cs.length ≤ 4000)
    {y t' : Addr} {kb' : ClassId} {ds : List Int32} {cd' N2' : Int32} {vs' : List Value} (E' : RoadKit.Exa Z h y ST) (V' : RoadKit.Fld Z h y ST "value" "[B" (.ref t')) (C' : RoadKit.Fld Z h y ST "coder" "B" (.int cd')) (K' : RoadKit.Arv Z h t' kb' .byte N2' vs' (.int 0)) (hc' : CodA ds cd' N2' vs') (hb' : ∀ c ∈ ds, ¬ c < 0 ∧ ¬ (65535 : Int32) < c) (l2' : ds.length ≤ 4000)
    {z : Int32} (S : RoadKit.Sta Z h ST "COMPACT_STRINGS" "Z" (.int z)) (hz : ¬ z = 0) (hfr : 2 ≤ R.frames) (hlo : W + 28 ≤ R.locals) :
    Back l R p e below s args (⟨"java/lang/String", "equals", "(Ljava/lang/Object;)Z"⟩ : MethodName) len W (fun P a => a = #[.ref x, .ref y] ∧ P.U.heap = h ∧ P.cells + 0 ≤ R.cells ∧ P.slots + 0 ≤ R.slots)
      (fun P _ v B => ∃ L, (((v = some (.int 1) ∧ cs = ds) ∨ (v = some (.int 0) ∧ ¬ cs = ds)) ∧ L = [] ∧ B.U.heap = h) ∧ B.locs = P.locs ++ L ∧ B.cells = P.cells + 0 ∧ B.slots = P.slots + 0) := by
  intro m meth c P g ig mk a X hg hsize hdg hW hn hp'
  obtain ⟨rfl, rfl, r1, r2⟩ := hp'
  have al : Z.vm.Alike P.U.vm := hZ.alike.trans X.warmed.alike
  obtain ⟨A, hx⟩ := txt_of wi al E V C K hc hb l2
  obtain ⟨A', hy⟩ := txt_of wi al E' V' C' K' hc' hb' l2'
  obtain ⟨v, B, X', ⟨⟨w, hv, hh, hq⟩, hl, hk, hs⟩, st⟩ := SEq.pays x t A cd cs.length (fun j => cs.getD j 0) y t' A' cd' ds.length (fun j => ds.getD j 0) z (tabEq_of (movedEq hZ hw)) hfr hlo m meth c P g ig mk _ X hg hsize hdg hW hn ⟨r1, r2, rfl, hx, hy, sta_is al S, hz⟩
  refine ⟨v, B, X', ⟨[], ⟨?_, rfl, hh⟩, hl, hk, hs⟩, st⟩
  rcases hq with ⟨rfl, q⟩ | ⟨rfl, q⟩
  · exact Or.inl ⟨hv, (same_list cs ds).mp q⟩
  · exact Or.inr ⟨hv, fun e => q ((same_list cs ds).mpr e)⟩
end StrChars.Road
namespace StrChars
open Jvm Sem ClassFile Op Lib Jvm.Stand Jvm.Free.XT Jvm.Free.ALB Jvm.Free.JM Jvm.Free
open Jvm.Lib.Cold (StaticIs)
namespace ChN
def yN : MethodName := ⟨"java/lang/String", "charAt", "(I)C"⟩
abbrev yB : ByteArray := jdk_42_method_56_code
theorem d0 : decode yB 0 = .ok (.aload_n 0, 1) := by decide +kernel
theorem d1 : decode yB 1 = .ok (.invokevirtual 492, 3) := by decide +kernel
theorem d4 : decode yB 4 = .ok (.ifCond (.eq) 12, 3) := by decide +kernel
theorem d7 : decode yB 7 = .ok (.aload_n 0, 1) := by decide +kernel
theorem d8 : decode yB 8 = .ok (.getfield 9, 3) := by decide +kernel
theorem d11 : decode yB 11 = .ok (.iload_n 1, 1) := by decide +kernel
theorem d12 : decode yB 12 = .ok (.invokestatic 495, 3) := by decide +kernel
theorem d15 : decode yB 15 = .ok (.ireturn, 1) := by decide +kernel
def site : List Cond := [.fieldLink "java/lang/String" 9 "java/lang/String" "value" "[B", IsL.tab, LChA.tab] ++ virtW "java/lang/String" 492 "java/lang/String" IsL.yN IsL.yN ++ staticW "java/lang/String" 495 LChA.yN
def tab : Cond := tabOf yN yB 2 (some .char) site
def P (x t : Addr) (V : Cell) (n : Nat) (f : Nat → Int32) (z : Int32) (fm : Value) (i : Nat) (args : Array Value) (s : State) : Prop := args = #[.ref x, .int (Int32.ofNat i)] ∧ Txt x t V 0 n f s ∧ i < n ∧ StaticIs s "java/lang/String" "COMPACT_STRINGS" "Z" (.int z) ∧ ¬ z = 0 ∧ StaticIs s "jdk/internal/util/Preconditions" "SIOOBE_FORMATTER" "Ljava/util/function/BiFunction;" fm ∧ fm.isRef = true
def E (f : Nat → Int32) (i : Nat) (r : Option Value) (s u : State) : Prop := XT.PureE (some (.int (f i))) r s u
/-- charAt(i) of a Latin-1 String of n chars, i < n: f i -/
theorem law (l : Launch) (x t : Addr) (V : Cell) (n : Nat) (f : Nat → Int32) (z : Int32) (fm : Value) (i : Nat) : Law l yN 2 1 3 40 yB 2 (some .char) site (P x t V n f z fm i) (E f i) [] 0 0 := by
  refine Law.of_walk (plainFor_of_name (by decide +kernel)) (by decide +kernel) (by decide +kernel) (by decide) (fun _ _ h => by rw [h.1]; rfl) (fun _ U U' hal hh h => ⟨h.1, h.2.1.mv hal hh, h.2.2.1, h.2.2.2.1.there hal hh, h.2.2.2.2.1, h.2.2.2.2.2.1.there hal hh, h.2.2.2.2.2.2⟩) (fun r U U' V V' h1 hal h2 h => XT.PureE.mv r U U' V V' h1 hal h2 h) ?_
  intro p e s m args below meth c s₁ X0 hexec hbytes hml hret hlk hnm hown hh0 W hP
  obtain ⟨rfl, hx, hi, s1, hz, s3, rf⟩ := hP
  have v31 := hx.2.2.2.1.2.2.2
  have hr := hx.2.2.2.2.2 i hi
  have hx0 := hx.mv X0.warmed.alike hh0
  have c1 : Steps p.tables e below (s₁.setTop (entryFrame m #[.ref x, .int (Int32.ofNat i)] 2)) (s₁.setTop (mkF m 1 #[.val (.ref x), .val (.int (Int32.ofNat i))] [.ref x])) := Steps.trans (entry rfl) (by
    show Steps p.tables e below (s₁.setTop (mkF m 0 #[.val (.ref x), .val (.int (Int32.ofNat i))] [])) _
    refine XS.aloadN X0.here hexec rfl (hb hbytes d0) rfl rfl ?_
    exact Steps.refl _)
  obtain ⟨v2, T2, X2, E2, g2⟩ := X0.callV hexec (IsL.law l x 0 z) hown (wks W (virtW "java/lang/String" 492 "java/lang/String" IsL.yN IsL.yN)) rfl (by decide) (wk W IsL.tab) (W := 0) (Nat.le_of_ble_eq_true rfl) (Nat.le_of_ble_eq_true rfl) (Nat.le_refl _) (Nat.le_refl _) (hx0.1.fc X0.warmed.alike) hx0.1.is (g := (mkF m 1 #[.val (.ref x), .val (.int (Int32.ofNat i))] [.ref x])) rfl (by rw [hml]; rfl) c1 (argsL := []) (rest := []) rfl rfl (by show 2 * 0 + 0 ≤ _; decide) (hb hbytes d1) (⟨rfl, hx0.2.2.1, hx.2.2.2.2.1.cd, s1.there X0.warmed.alike hh0, hz⟩)
  obtain ⟨rfl, q2⟩ := E2
  have hh2 := q2.trans hh0
  have hx2 := hx.mv X2.warmed.alike hh2
  obtain ⟨-, k1, k2⟩ | ⟨k0, -⟩ := hx.2.2.2.2.1
  · have c3 : Steps p.tables e below (s₁.setTop (entryFrame m #[.ref x, .int (Int32.ofNat i)] 2)) (T2.setTop (mkF m 8 #[.val (.ref x), .val (.int (Int32.ofNat i))] [.ref x])) := Steps.trans g2 (by
      refine XS.ifNo X2.here hexec rfl (hb hbytes d4) rfl (i0_eq_f (by decide)) ?_
      refine XS.aloadN X2.here hexec rfl (hb hbytes d7) rfl rfl ?_
      exact Steps.refl _)
    obtain ⟨T4, X4, q4, st4⟩ := X2.hget hexec hown (wk W (.fieldLink "java/lang/String" 9 "java/lang/String" "value" "[B")) hx2.2.1 (g := (mkF m 8 #[.val (.ref x), .val (.int (Int32.ofNat i))] [.ref x])) rfl (rest := []) rfl (hb hbytes d8)
    have hh4 := q4.trans hh2
    have c5 : Steps p.tables e below (s₁.setTop (entryFrame m #[.ref x, .int (Int32.ofNat i)] 2)) (T4.setTop (mkF m 12 #[.val (.ref x), .val (.int (Int32.ofNat i))] [.int (Int32.ofNat i), .ref t])) := (c3.trans (st4 _ (Steps.refl _))).trans (by
      refine XS.iloadN X4.here hexec rfl (hb hbytes d11) rfl ?_
      exact Steps.refl _)
    obtain ⟨v6, T6, X6, E6, g6⟩ := X4.callS hexec (LChA.law l t V i (lo8 (f i)) fm) hown (wks W (staticW "java/lang/String" 495 LChA.yN)) (wk W LChA.tab) (W := 0) (Nat.le_of_ble_eq_true rfl) (Nat.le_of_ble_eq_true rfl) (Nat.le_refl _) (Nat.le_refl _) (g := (mkF m 12 #[.val (.ref x), .val (.int (Int32.ofNat i))] [.int (Int32.ofNat i), .ref t])) rfl (by rw [hml]; rfl) c5 (argsL := [.ref t, .int (Int32.ofNat i)]) (rest := []) rfl rfl (by show 2 * 0 + 0 ≤ _; decide) (hb hbytes d12) (⟨rfl, hx.2.2.2.1.mv X4.warmed.alike hh4, (k2 i hi).1, s3.there X4.warmed.alike hh4, rf⟩)
    obtain ⟨rfl, q6⟩ := E6
    rw [chr8_lo8 hr.1 (k2 i hi).2] at g6
    exact ⟨T6, some (.int (f i)), _, _, _, X6, rfl, rfl, rfl, (fun h => by cases h), ⟨rfl, q6.trans hh4⟩, fun fs hl => Steps.trans g6 (X6.ireturnOut hexec hret (narrow_ch hr.1 hr.2) (Or.inr (Or.inr (Or.inr (Or.inl rfl)))) (hb hbytes d15) hl)⟩
  · exact absurd k0 (by decide)
theorem pays {l : Launch} {R : Room} {p : Program} {e : Env} {below : List Frame} {s : State} {sargs : Array Value} {len W : Nat} (x t : Addr) (V : Cell) (n : Nat) (f : Nat → Int32) (z : Int32) (fm : Value) (i : Nat) (htab : tab.before sargs s = true) (hfr : 4 ≤ R.frames) (hlo : W + 53 ≤ R.locals) :
    Back l R p e below s sargs yN len W (fun A₁ a₁ => A₁.cells + 0 ≤ R.cells ∧ A₁.slots + 0 ≤ R.slots ∧ P x t V n f z fm i a₁ A₁.U) (fun A₁ _ v₁ B₁ => E f i v₁ A₁.U B₁.U ∧ B₁.locs = A₁.locs ++ [] ∧ B₁.cells = A₁.cells + 0 ∧ B₁.slots = A₁.slots + 0) :=
  (law l x t V n f z fm i).pays htab hfr (by omega)
end ChN
end StrChars
namespace StrChars.Road
open Jvm Sem ClassFile Op Lib Jvm.Stand Jvm.Free Jvm.Free.XT
open Jvm.Lib.Cold (StaticIs)
/-- the words of String.charAt(int), the Latin-1 road alone -/
abbrev wordsChN : List Jvm.Cond := [.code ChN.yN ChN.yB 2 (some .char), .initialized ST, .fieldLink ST 9 ST "value" "[B", .fieldLink ST 38 ST "COMPACT_STRINGS" "Z", .fieldLink ST 15 ST "coder" "B", .code IsL.yN IsL.yB 1 (some .boolean), .methodLink ST 492 IsL.yN, .declares IsL.yN, .selects ST IsL.yN IsL.yN, .instanceMethod IsL.yN,
  .methodLink ST 495 LChA.yN, .static LChA.yN, .code LChA.yN LChA.yB 2 (some .char), .initialized "java/lang/StringLatin1", .methodLink "java/lang/StringLatin1" 9 JO.Str_checkIndex.yN, .static JO.Str_checkIndex.yN, .code JO.Str_checkIndex.yN JO.Str_checkIndex.yB 2 none,
  .fieldLink ST 1053 "jdk/internal/util/Preconditions" "SIOOBE_FORMATTER" "Ljava/util/function/BiFunction;", .methodLink ST 1059 JC.PreCheck.yN, .static JC.PreCheck.yN, .code JC.PreCheck.yN JC.PreCheck.yB 3 (some .int), .initialized "jdk/internal/util/Preconditions"]
theorem tabChN_of {a : Array Value} {s : State} (h : ∀ w ∈ wordsChN, w.before a s = true) : ChN.tab.before a s = true := by
  have hp : JC.PreCheck.tab.before a s = true := unparts (wk h (.code JC.PreCheck.yN JC.PreCheck.yB 3 (some .int))) (wks h (.initialized JC.PreCheck.yN.cls :: JC.PreCheck.site))
  have qk := consq hp h
  have hk : JO.Str_checkIndex.tab.before a s = true := unparts (wk qk (.code JO.Str_checkIndex.yN JO.Str_checkIndex.yB 2 none)) (wks qk (.initialized JO.Str_checkIndex.yN.cls :: JO.Str_checkIndex.site))
  have ql := consq hk h
  have hl : LChA.tab.before a s = true := unparts (wk ql (.code LChA.yN LChA.yB 2 (some .char))) (wks ql (.initialized LChA.yN.cls :: LChA.site))
  have hi : IsL.tab.before a s = true := unparts (wk h (.code IsL.yN IsL.yB 1 (some .boolean))) (wks h (.initialized IsL.yN.cls :: IsL.site))
  have q := consq hi (consq hl h)
  exact unparts (wk q (.code ChN.yN ChN.yB 2 (some .char))) (wks q (.initialized ChN.yN.cls :: ChN.site))
theorem movedChN {Z s : State} {a0 args : Array Value} (hZ : Z.Warmed39 s.vm) (hw : ∀ d ∈ wordsChN, d.before a0 Z = true) : ∀ d ∈ wordsChN, d.before args s = true := fun d hd => by
  have t : ∀ d ∈ wordsChN, (d.onTables && d.keepsFace) = true := by decide +kernel
  exact RoadKit.mv hZ (hw d hd) (t d hd)
/-- **charAt(i) OF A LATIN-1 STRING**, i < n: the char -/
theorem chN {p : Program} {l : Launch} {e : Env} {R : Room} {s : State} {args : Array Value} {below : List Frame} {len W : Nat} {Z : State} {a0 : Array Value} {h : Heap} (hZ : Z.Warmed39 s.vm) (hw : ∀ d ∈ wordsChN, d.before a0 Z = true) {kI : Nat} (wi : (Jvm.Cond.instantiable ST kI).before a0 Z = true)
    {x t : Addr} {kb : ClassId} {cs : List Int32} {N2 z : Int32} {vs : List Value} {fm : Value} {i : Nat} {j : Int32} (E : RoadKit.Exa Z h x ST) (V : RoadKit.Fld Z h x ST "value" "[B" (.ref t)) (C : RoadKit.Fld Z h x ST "coder" "B" (.int 0)) (K : RoadKit.Arv Z h t kb .byte N2 vs (.int 0)) (hc : CodA cs 0 N2 vs) (hb : ∀ c ∈ cs, ¬ c < 0 ∧ ¬ (65535 : Int32) < c)
    (S : RoadKit.Sta Z h ST "COMPACT_STRINGS" "Z" (.int z)) (hz : ¬ z = 0) (F : RoadKit.Sta Z h "jdk/internal/util/Preconditions" "SIOOBE_FORMATTER" "Ljava/util/function/BiFunction;" fm) (rf : fm.isRef = true) (l2 : cs.length ≤ 4000) (hi : i < cs.length) (hj : j = Int32.ofNat i) (hfr : 4 ≤ R.frames) (hlo : W + 53 ≤ R.locals) :
    Back l R p e below s args (⟨"java/lang/String", "charAt", "(I)C"⟩ : MethodName) len W (fun P a => a = #[.ref x, .int j] ∧ P.U.heap = h ∧ P.cells + 0 ≤ R.cells ∧ P.slots + 0 ≤ R.slots)
      (fun P _ v B => ∃ L, (v = some (.int (cs.getD i 0)) ∧ L = [] ∧ B.U.heap = h) ∧ B.locs = P.locs ++ L ∧ B.cells = P.cells + 0 ∧ B.slots = P.slots + 0) := by
  subst hj
  intro m meth c P g ig mk a X hg hsize hdg hW hn hp'
  obtain ⟨rfl, rfl, r1, r2⟩ := hp'
  have al : Z.vm.Alike P.U.vm := hZ.alike.trans X.warmed.alike
  obtain ⟨A, hx⟩ := txt_of wi al E V C K hc hb l2
  obtain ⟨v, B, X', ⟨⟨hv, hh⟩, hl, hk, hs⟩, st⟩ := ChN.pays x t A cs.length (fun j => cs.getD j 0) z fm i (tabChN_of (movedChN hZ hw)) hfr hlo m meth c P g ig mk _ X hg hsize hdg hW hn ⟨r1, r2, rfl, hx, hi, sta_is al S, hz, sta_is al F, rf⟩
  exact ⟨v, B, X', ⟨[], ⟨hv, rfl, hh⟩, hl, hk, hs⟩, st⟩
/-- what backV says of its String, as the contracts of this text ask it: cs's low bytes, coder 0 -/
theorem codOf {cs : List Int32} {n : Nat} (hn : cs.length = n) (hb : ∀ c ∈ cs, ¬ 255 < c) : CodA cs 0 (Int32.ofNat n) ((cs.map lo8).map Value.int) := Or.inl ⟨rfl, by rw [hn], by simp [List.map_map, Function.comp_def], hb⟩
end StrChars.Road
end Jvm.Pilot.@@N@@
namespace Jvm.Pilot.@@N@@
open Jvm Jvm.ClassFile Sem Op Lib Jvm.Free Jvm.Stand Jvm.LawKit Jvm.RoadKit Bundle Jvm.OwK Jvm.Pilot.@@N@@.Jvm.D
theorem wd {a0 : Array Value} {Z : State} (hw : ∀ d ∈ tables_1, d.before a0 Z = true) (k : Nat) {d : Jvm.Cond} (h : tables_1[k]? = some d) : d.before a0 Z = true := hw _ (List.mem_of_getElem? h)
/-- the statics on which the String laws rest -/
def Gl (Z : State) : Prop := (∃ z : Int32, Sta Z Z.heap "java/lang/String" "COMPACT_STRINGS" "Z" (.int z) ∧ ¬ z = 0) ∧ ∃ v : Value, Sta Z Z.heap "jdk/internal/util/Preconditions" "SIOOBE_FORMATTER" "Ljava/util/function/BiFunction;" v ∧ v.isRef = true
section StrCalls
variable {nw : Prop} {EL : List (String × Nat)} {n0 : Nat} {Z : State} {a0 : Array Value} {p : Program} {l : Launch} {e : Env} {R : Room} {s : State} {args : Array Value} {below : List Frame} {h : Heap} {xs : List Addr} {wt : Nat}
theorem newStr (hE : EW Z a0 EL) (hw : ∀ d ∈ tables_1, d.before a0 Z = true) (G : Gl Z) {x b : Addr} {ka : ClassId} {cs : List Int32} (N : NewS Z h x) (A : CArr Z h b ka cs) (hm : n0 ≤ x ∧ x < h.size) (hx : x ∈ xs) (hp : ∀ c ∈ cs, ¬ c < 0 ∧ ¬ (255 : Int32) < c) (l0 : 0 < cs.length) (l2 : cs.length ≤ 4000) (hfr : 4 ≤ R.frames) (hlo : wt + 65 ≤ R.locals) :
    Call nw EL n0 Z xs l R p e below s args (⟨"java/lang/String", "<init>", "([C)V"⟩ : MethodName) 3 wt #[.ref x, .ref b] h 1 cs.length (RN fun h' => Keep h h' [x] ∧ Str Z h' x cs) := by
  obtain ⟨⟨z, O2, P5⟩, -⟩ := G
  have hws : ∀ d ∈ StrChars.Road.words, d.before a0 Z = true := fun d hd => hw d ((by decide +kernel : ∀ d ∈ StrChars.Road.words, d ∈ tables_1) d hd)
  refine Call.of_back hE (Qb := fun v h' Lc => StrChars.Road.QV Z x (Int32.ofNat cs.length) (cs.map fun c => c.toInt8.toInt32) h n0 v h' Lc) (fun vm0 hZ hO => StrChars.Road.backV (s := s.setVm vm0) hZ hws (kI := 4) (wd hw 13 rfl) (cs := cs) (n := cs.length) hm.1 (old_le hO) N.1 N.2.1 N.2.2 A (O2.ext hO.2) P5 rfl rfl l0 l2 hp rfl hfr hlo) (fun v h' Lc hO q => ?_)
  obtain ⟨q1, q2, q3, q4, q5, t, kb, t1, t2, t3, q6, q7⟩ := q
  exact ⟨⟨q1, q3, q4, q5, ⟨t, kb, q6, q7⟩, hp, l2⟩, q2, [x], q3, by simp [hx]⟩
theorem strLen (hE : EW Z a0 EL) (hw : ∀ d ∈ tables_1, d.before a0 Z = true) (G : Gl Z) {x : Addr} {cs : List Int32} (S : Str Z h x cs) (hfr : 2 ≤ R.frames) (hlo : wt + 25 ≤ R.locals) :
    Call nw EL n0 Z xs l R p e below s args (⟨"java/lang/String", "length", "()I"⟩ : MethodName) 3 wt #[.ref x] h 0 0 (RV fun w h' => w = .int (Int32.ofNat cs.length) ∧ h = h') := by
  obtain ⟨⟨z, O2, P5⟩, -⟩ := G
  obtain ⟨E, C, ⟨b, k, V, A⟩, hp, hl⟩ := S
  have hws : ∀ d ∈ StrChars.Road.wordsLen, d.before a0 Z = true := fun d hd => hw d ((by decide +kernel : ∀ d ∈ StrChars.Road.wordsLen, d ∈ tables_1) d hd)
  refine Call.of_back hE (Qb := fun v h' Lc => v = some (.int (Int32.ofNat cs.length)) ∧ Lc = [] ∧ h' = h) (fun vm0 hZ hO => StrChars.Road.lenW (s := s.setVm vm0) hZ hws (kI := 4) (wd hw 13 rfl) E V C A (StrChars.Road.codOf (n := cs.length) rfl (fun c hc => (hp c hc).2)) (up_chars cs hp) (O2.ext hO.2) P5 hl hfr hlo) (fun v h' Lc hO q => ?_)
  obtain ⟨rfl, rfl, rfl⟩ := q
  exact ⟨⟨_, rfl, rfl, rfl⟩, Fr.nil _, [], Keep.refl _ _, fun _ q => nomatch q⟩
theorem strAt (hE : EW Z a0 EL) (hw : ∀ d ∈ tables_1, d.before a0 Z = true) (G : Gl Z) {x : Addr} {cs : List Int32} {j : Int32} (i : Nat) (S : Str Z h x cs) (hi : i < cs.length) (hj : j = Int32.ofNat i) (hfr : 4 ≤ R.frames) (hlo : wt + 53 ≤ R.locals) :
    Call nw EL n0 Z xs l R p e below s args (⟨"java/lang/String", "charAt", "(I)C"⟩ : MethodName) 3 wt #[.ref x, .int j] h 0 0 (RV fun w h' => w = .int (cs.getD i 0) ∧ h = h') := by
  obtain ⟨⟨z, O2, P5⟩, ⟨fm, O4, rf⟩⟩ := G
  obtain ⟨E, C, ⟨b, k, V, A⟩, hp, hl⟩ := S
  have hws : ∀ d ∈ StrChars.Road.wordsChN, d.before a0 Z = true := fun d hd => hw d ((by decide +kernel : ∀ d ∈ StrChars.Road.wordsChN, d ∈ tables_1) d hd)
  refine Call.of_back hE (Qb := fun v h' Lc => v = some (.int (cs.getD i 0)) ∧ Lc = [] ∧ h' = h) (fun vm0 hZ hO => StrChars.Road.chN (s := s.setVm vm0) hZ hws (kI := 4) (wd hw 13 rfl) E V C A (StrChars.Road.codOf (n := cs.length) rfl (fun c hc => (hp c hc).2)) (up_chars cs hp) (O2.ext hO.2) P5 (O4.ext hO.2) rf hl hi hj hfr hlo) (fun v h' Lc hO q => ?_)
  obtain ⟨rfl, rfl, rfl⟩ := q
  exact ⟨⟨_, rfl, rfl, rfl⟩, Fr.nil _, [], Keep.refl _ _, fun _ q => nomatch q⟩
theorem strEq (hE : EW Z a0 EL) (hw : ∀ d ∈ tables_1, d.before a0 Z = true) (G : Gl Z) {x y : Addr} {cs ds : List Int32} (S : Str Z h x cs) (S' : Str Z h y ds) (hfr : 2 ≤ R.frames) (hlo : wt + 28 ≤ R.locals) :
    Call nw EL n0 Z xs l R p e below s args (⟨"java/lang/String", "equals", "(Ljava/lang/Object;)Z"⟩ : MethodName) 3 wt #[.ref x, .ref y] h 0 0 (RV fun w h' => w = .int (if cs = ds then 1 else 0) ∧ h = h') := by
  obtain ⟨⟨z, O2, P5⟩, -⟩ := G
  obtain ⟨E, C, ⟨b, k, V, A⟩, hp, hl⟩ := S
  obtain ⟨E', C', ⟨b', k', V', A'⟩, hp', hl'⟩ := S'
  have hws : ∀ d ∈ StrChars.Road.wordsEq, d.before a0 Z = true := fun d hd => hw d ((by decide +kernel : ∀ d ∈ StrChars.Road.wordsEq, d ∈ tables_1) d hd)
  refine Call.of_back hE (Qb := fun v h' Lc => ((v = some (.int 1) ∧ cs = ds) ∨ (v = some (.int 0) ∧ ¬ cs = ds)) ∧ Lc = [] ∧ h' = h) (fun vm0 hZ hO => StrChars.Road.eqW (s := s.setVm vm0) hZ hws (kI := 4) (wd hw 13 rfl) E V C A (StrChars.Road.codOf (n := cs.length) rfl (fun c hc => (hp c hc).2)) (up_chars cs hp) hl E' V' C' A' (StrChars.Road.codOf (n := ds.length) rfl (fun c hc => (hp' c hc).2)) (up_chars ds hp') hl' (O2.ext hO.2) P5 hfr hlo) (fun v h' Lc hO q => ?_)
  obtain ⟨hv, rfl, rfl⟩ := q
  refine ⟨⟨.int (if cs = ds then 1 else 0), ?_, rfl, rfl⟩, Fr.nil _, [], Keep.refl _ _, fun _ q => nomatch q⟩
  rcases hv with ⟨rfl, q⟩ | ⟨rfl, q⟩
  · rw [if_pos q]
  · rw [if_neg q]
end StrCalls
def EL0 : List (String × Nat) := [("java/lang/String", 7), ("java/lang/StringLatin1", 151)]
abbrev NW : Prop := False
theorem pn_0 : plainName "java/lang/String" = true := by first | (simp [plainName, overriddenIn]; done) | decide +kernel
theorem d_jdk_42_method_152_0 : Dec jdk_42_method_152_code 0 (.getstatic 38) 3 3 := ⟨by decide +kernel, rfl⟩
theorem d_jdk_42_method_152_3 : Dec jdk_42_method_152_code 3 (.ifCond .eq 10) 3 6 := ⟨by decide +kernel, rfl⟩
theorem d_jdk_42_method_152_6 : Dec jdk_42_method_152_code 6 (.aload_n 0) 1 7 := ⟨by decide +kernel, rfl⟩
theorem d_jdk_42_method_152_7 : Dec jdk_42_method_152_code 7 (.getfield 15) 3 10 := ⟨by decide +kernel, rfl⟩
theorem d_jdk_42_method_152_10 : Dec jdk_42_method_152_code 10 (.goto 4) 3 13 := ⟨by decide +kernel, rfl⟩
theorem d_jdk_42_method_152_14 : Dec jdk_42_method_152_code 14 (.ireturn) 1 15 := ⟨by decide +kernel, rfl⟩
set_option maxRecDepth 65536 in
set_option maxHeartbeats 40000000 in
theorem c_coder (l : Launch) (Z : State) (a0 : Array Value) (hw : ∀ d ∈ tables_1, d.before a0 Z = true) (hE : EW Z a0 EL0) {n0 : Nat} {h0 : Heap} (hO : Old Z n0 h0) (hG : Gl Z) {a : Addr} {cs : List Int32} (S : Str Z h0 a cs) :
    Ctr NW EL0 n0 Z [] l (⟨"java/lang/String", "coder", "()B"⟩ : MethodName) jdk_42_method_152_code 1 (some .byte) ({ frames := 0, cells := 0, slots := 0, locals := 0 } : Room) #[.ref a] h0 (RV fun w h => w = .int 0 ∧ h0 = h) := by
  refine Ctr.body (plainFor_of_name pn_0) hE hO (fun x q => nomatch q) (L0 := #[.val (.ref a)]) (fun m => by first | (simp [entryFrame, mkF, argsToLocals, Value.category, maxLocals]; done) | rfl) ?_
  intro p e s m below meth c T0 W0
  obtain ⟨⟨zc, O2, P5⟩, -⟩ := id hG
  obtain ⟨Ex, Co, -⟩ := id S
  refine Go.gets W0 d_jdk_42_method_152_0 (wd hw 25 rfl) Via.refl O2 ?_
  intro T1 W1
  refine Go.ifeq W1.cx d_jdk_42_method_152_3 (by decide) (q := 13) rfl (fun hh => (by first | exact absurd P5 hh | exact absurd hh P5)) (fun _ => ?_)
  refine Go.aload_n W1.cx d_jdk_42_method_152_6 (v := (.ref a)) rfl rfl ?_
  refine Go.getf W1 d_jdk_42_method_152_7 (wd hw 37 rfl) Via.refl Co ?_
  intro T2 W2
  refine Go.goto W2.cx d_jdk_42_method_152_10 (by decide) (q := 14) rfl ?_
  exact Go.iret W2 d_jdk_42_method_152_14 (by simp) rfl (by decide) (by decide) ⟨_, rfl, rfl, rfl⟩
theorem d_jdk_42_method_154_0 : Dec jdk_42_method_154_code 0 (.getstatic 38) 3 3 := ⟨by decide +kernel, rfl⟩
theorem d_jdk_42_method_154_3 : Dec jdk_42_method_154_code 3 (.ifCond .eq 14) 3 6 := ⟨by decide +kernel, rfl⟩
theorem d_jdk_42_method_154_6 : Dec jdk_42_method_154_code 6 (.aload_n 0) 1 7 := ⟨by decide +kernel, rfl⟩
theorem d_jdk_42_method_154_7 : Dec jdk_42_method_154_code 7 (.getfield 15) 3 10 := ⟨by decide +kernel, rfl⟩
theorem d_jdk_42_method_154_10 : Dec jdk_42_method_154_code 10 (.ifCond .ne 7) 3 13 := ⟨by decide +kernel, rfl⟩
theorem d_jdk_42_method_154_13 : Dec jdk_42_method_154_code 13 (.iconst 1) 1 14 := ⟨by decide +kernel, rfl⟩
theorem d_jdk_42_method_154_14 : Dec jdk_42_method_154_code 14 (.goto 4) 3 17 := ⟨by decide +kernel, rfl⟩
theorem d_jdk_42_method_154_18 : Dec jdk_42_method_154_code 18 (.ireturn) 1 19 := ⟨by decide +kernel, rfl⟩
set_option maxRecDepth 65536 in
set_option maxHeartbeats 40000000 in
theorem c_lat1 (l : Launch) (Z : State) (a0 : Array Value) (hw : ∀ d ∈ tables_1, d.before a0 Z = true) (hE : EW Z a0 EL0) {n0 : Nat} {h0 : Heap} (hO : Old Z n0 h0) (hG : Gl Z) {a : Addr} {cs : List Int32} (S : Str Z h0 a cs) :
    Ctr NW EL0 n0 Z [] l (⟨"java/lang/String", "isLatin1", "()Z"⟩ : MethodName) jdk_42_method_154_code 1 (some .boolean) ({ frames := 0, cells := 0, slots := 0, locals := 0 } : Room) #[.ref a] h0 (RV fun w h => w = .int 1 ∧ h0 = h) := by
  refine Ctr.body (plainFor_of_name pn_0) hE hO (fun x q => nomatch q) (L0 := #[.val (.ref a)]) (fun m => by first | (simp [entryFrame, mkF, argsToLocals, Value.category, maxLocals]; done) | rfl) ?_
  intro p e s m below meth c T0 W0
  obtain ⟨⟨zc, O2, P5⟩, -⟩ := id hG
  obtain ⟨Ex, Co, -⟩ := id S
  refine Go.gets W0 d_jdk_42_method_154_0 (wd hw 25 rfl) Via.refl O2 ?_
  intro T1 W1
  refine Go.ifeq W1.cx d_jdk_42_method_154_3 (by decide) (q := 17) rfl (fun hh => (by first | exact absurd P5 hh | exact absurd hh P5)) (fun _ => ?_)
  refine Go.aload_n W1.cx d_jdk_42_method_154_6 (v := (.ref a)) rfl rfl ?_
  refine Go.getf W1 d_jdk_42_method_154_7 (wd hw 37 rfl) Via.refl Co ?_
  intro T2 W2
  refine Go.ifne W2.cx d_jdk_42_method_154_10 (by decide) (q := 17) rfl (fun hh => (by first | exact absurd (rfl : (0 : Int32) = 0) hh | exact absurd hh (rfl : (0 : Int32) = 0))) (fun _ => ?_)
  refine Go.iconst W2.cx d_jdk_42_method_154_13 (z := (1 : Int32)) rfl ?_
  refine Go.goto W2.cx d_jdk_42_method_154_14 (by decide) (q := 18) rfl ?_
  exact Go.iret W2 d_jdk_42_method_154_18 (by simp) rfl (by decide) (by decide) ⟨_, rfl, rfl, rfl⟩
set_option maxRecDepth 65536 in
def TBL : List Int32 := [1207963663, 1207963663, 1207963663, 1207963663, 1207963663, 1207963663, 1207963663, 1207963663, 1207963663, 1476411407, 1342193679, 1476411407, 1610629135, 1342193679, 1207963663, 1207963663, 1207963663, 1207963663, 1207963663, 1207963663, 1207963663, 1207963663, 1207963663, 1207963663, 1207963663, 1207963663, 1207963663, 1207963663, 1342193679, 1342193679, 1342193679, 1476411407, 1610629132, 1744830488, 1744830488, 671088664, 671113242, 671088664, 1744830488, 1744830488, -402653163, -402653162, 1744830488, 536870937, 939524120, 536870932, 939524120, 939524120, 402667017, 402667017, 402667017, 402667017, 402667017, 402667017, 402667017, 402667017, 402667017, 402667017, 939524120, 1744830488, -402653159, 1744830489, -402653159, 1744830488, 1744830488, 8552417, 8552417, 8552417, 8552417, 8552417, 8552417, 8552417, 8552417, 8552417, 8552417, 8552417, 8552417, 8552417, 8552417, 8552417, 8552417, 8552417, 8552417, 8552417, 8552417, 8552417, 8552417, 8552417, 8552417, 8552417, 8552417, -402653163, 1744830488, -402653162, 1744830491, 1744850967, 1744830491, 8486882, 8486882, 8486882, 8486882, 8486882, 8486882, 8486882, 8486882, 8486882, 8486882, 8486882, 8486882, 8486882, 8486882, 8486882, 8486882, 8486882, 8486882, 8486882, 8486882, 8486882, 8486882, 8486882, 8486882, 8486882, 8486882, -402653163, 1744830489, -402653162, 1744830489, 1207963663, 1207963663, 1207963663, 1207963663, 1207963663, 1207963663, 1342181391, 1207963663, 1207963663, 1207963663, 1207963663, 1207963663, 1207963663, 1207963663, 1207963663, 1207963663, 1207963663, 1207963663, 1207963663, 1207963663, 1207963663, 1207963663, 1207963663, 1207963663, 1207963663, 1207963663, 1207963663, 1207963663, 1207963663, 1207963663, 1207963663, 1207963663, 1207963663, 939524108, 1744830488, 671113242, 671113242, 671113242, 671113242, 1744830492, 1744830488, 1744830491, 1744830492, 28677, -402653155, 1744830489, 1207963664, 1744830492, 1744830491, 671088668, 671088665, 402654731, 402654731, 1744830491, 134049794, 1744830488, 1744830488, 1744830491, 402654475, 28677, -402653154, 1744832523, 1744832523, 1744832523, 1744830488, 8548353, 8548353, 8548353, 8548353, 8548353, 8548353, 8548353, 8548353, 8548353, 8548353, 8548353, 8548353, 8548353, 8548353, 8548353, 8548353, 8548353, 8548353, 8548353, 8548353, 8548353, 8548353, 8548353, 1744830489, 8548353, 8548353, 8548353, 8548353, 8548353, 8548353, 8548353, 134049794, 8482818, 8482818, 8482818, 8482818, 8482818, 8482818, 8482818, 8482818, 8482818, 8482818, 8482818, 8482818, 8482818, 8482818, 8482818, 8482818, 8482818, 8482818, 8482818, 8482818, 8482818, 8482818, 8482818, 1744830489, 8482818, 8482818, 8482818, 8482818, 8482818, 8482818, 8482818, 102592514]
def wsP (c : Int32) : Prop := (¬ c < 9 ∧ ¬ 13 < c) ∨ (¬ c < 28 ∧ ¬ 32 < c)
instance : DecidablePred wsP := fun c => by unfold wsP; infer_instance
set_option maxRecDepth 65536 in
theorem tbl_ws : ∀ i : Fin 256, (TBL.getD i.val 0 &&& 28672 = 16384) ↔ wsP (Int32.ofNat i.val) := by decide +kernel
def Lat (Z : State) : Prop := ∃ ins D : Addr, Sta Z Z.heap "java/lang/CharacterDataLatin1" "instance" "Ljava/lang/CharacterDataLatin1;" (.ref ins) ∧ Exa Z Z.heap ins "java/lang/CharacterDataLatin1" ∧ Sta Z Z.heap "java/lang/CharacterDataLatin1" "A" "[I" (.ref D) ∧ ∃ cl : Cell, Arr Z Z.heap D cl .int ∧ ∀ i, i < 256 → cl.slots[i]? = some (.int (TBL.getD i 0))
theorem pn_1 : plainName "java/lang/StringLatin1" = true := by first | (simp [plainName, overriddenIn]; done) | decide +kernel
theorem d_jdk_43_method_44_0 : Dec jdk_43_method_44_code 0 (.aload_n 0) 1 1 := ⟨by decide +kernel, rfl⟩
theorem d_jdk_43_method_44_1 : Dec jdk_43_method_44_code 1 (.iload_n 1) 1 2 := ⟨by decide +kernel, rfl⟩
theorem d_jdk_43_method_44_2 : Dec jdk_43_method_44_code 2 (.baload) 1 3 := ⟨by decide +kernel, rfl⟩
theorem d_jdk_43_method_44_3 : Dec jdk_43_method_44_code 3 (.sipush 255) 3 6 := ⟨by decide +kernel, rfl⟩
theorem d_jdk_43_method_44_6 : Dec jdk_43_method_44_code 6 (.iand) 1 7 := ⟨by decide +kernel, rfl⟩
theorem d_jdk_43_method_44_7 : Dec jdk_43_method_44_code 7 (.i2c) 1 8 := ⟨by decide +kernel, rfl⟩
theorem d_jdk_43_method_44_8 : Dec jdk_43_method_44_code 8 (.ireturn) 1 9 := ⟨by decide +kernel, rfl⟩
set_option maxRecDepth 65536 in
set_option maxHeartbeats 40000000 in
theorem c_getc (l : Launch) (Z : State) (a0 : Array Value) (hw : ∀ d ∈ tables_1, d.before a0 Z = true) (hE : EW Z a0 EL0) {n0 : Nat} {h0 : Heap} (hO : Old Z n0 h0) {b : Addr} {kb : ClassId} {cs : List Int32} (A : BArr Z h0 b kb cs) (hpc : ∀ c ∈ cs, ¬ c < 0 ∧ ¬ (255 : Int32) < c) (hcl : cs.length ≤ 4000) {i : Nat} (hi : i < cs.length) :
    Ctr NW EL0 n0 Z [] l (⟨"java/lang/StringLatin1", "getChar", "([BI)C"⟩ : MethodName) jdk_43_method_44_code 2 (some .char) ({ frames := 0, cells := 0, slots := 0, locals := 0 } : Room) #[.ref b, .int (Int32.ofNat i)] h0 (RV fun w h => w = .int (cs.getD i 0) ∧ h0 = h) := by
  refine Ctr.body (plainFor_of_name pn_1) hE hO (fun x q => nomatch q) (L0 := #[.val (.ref b), .val (.int (Int32.ofNat i))]) (fun m => by first | (simp [entryFrame, mkF, argsToLocals, Value.category, maxLocals]; done) | rfl) ?_
  intro p e s m below meth c T0 W0
  have hr := getD_ch hpc hi
  refine Go.aload_n W0.cx d_jdk_43_method_44_0 (v := (.ref b)) rfl rfl ?_
  refine Go.iload_n W0.cx d_jdk_43_method_44_1 (v := (Int32.ofNat i)) rfl ?_
  refine Go.baload W0 i d_jdk_43_method_44_2 A rfl hi (by omega) (v := (by8 (cs.getD i 0))) rfl ?_
  refine Go.sipush W0.cx d_jdk_43_method_44_3 (z := (255 : Int32)) rfl ?_
  refine Go.iand W0.cx d_jdk_43_method_44_6 ?_
  refine Go.i2c W0.cx d_jdk_43_method_44_7 ?_
  refine Go.top (show _ = ((by8 (cs.getD i 0)) &&& (255 : Int32)) from i2c_mask _) ?_
  refine Go.top (by8_and hr) ?_
  exact Go.iret W0 d_jdk_43_method_44_8 (by simp) (narrow_ch hr) (by decide) (by decide) ⟨_, rfl, rfl, rfl⟩
theorem pn_2 : plainName "java/lang/CharacterDataLatin1" = true := by first | (simp [plainName, overriddenIn]; done) | decide +kernel
theorem d_jdk_116_method_1_0 : Dec jdk_116_method_1_code 0 (.iload_n 1) 1 1 := ⟨by decide +kernel, rfl⟩
theorem d_jdk_116_method_1_1 : Dec jdk_116_method_1_code 1 (.i2c) 1 2 := ⟨by decide +kernel, rfl⟩
theorem d_jdk_116_method_1_2 : Dec jdk_116_method_1_code 2 (.istore_n 2) 1 3 := ⟨by decide +kernel, rfl⟩
theorem d_jdk_116_method_1_3 : Dec jdk_116_method_1_code 3 (.getstatic 1) 3 6 := ⟨by decide +kernel, rfl⟩
theorem d_jdk_116_method_1_6 : Dec jdk_116_method_1_code 6 (.iload_n 2) 1 7 := ⟨by decide +kernel, rfl⟩
theorem d_jdk_116_method_1_7 : Dec jdk_116_method_1_code 7 (.iaload) 1 8 := ⟨by decide +kernel, rfl⟩
theorem d_jdk_116_method_1_8 : Dec jdk_116_method_1_code 8 (.istore_n 3) 1 9 := ⟨by decide +kernel, rfl⟩
theorem d_jdk_116_method_1_9 : Dec jdk_116_method_1_code 9 (.iload_n 3) 1 10 := ⟨by decide +kernel, rfl⟩
theorem d_jdk_116_method_1_10 : Dec jdk_116_method_1_code 10 (.ireturn) 1 11 := ⟨by decide +kernel, rfl⟩
set_option maxRecDepth 65536 in
set_option maxHeartbeats 40000000 in
theorem c_prop (l : Launch) (Z : State) (a0 : Array Value) (hw : ∀ d ∈ tables_1, d.before a0 Z = true) (hE : EW Z a0 EL0) {n0 : Nat} {h0 : Heap} (hO : Old Z n0 h0) (hL : Lat Z) {t : Addr} {x : Int32} (hx : ¬ x < 0 ∧ ¬ (255 : Int32) < x) :
    Ctr NW EL0 n0 Z [] l (⟨"java/lang/CharacterDataLatin1", "getProperties", "(I)I"⟩ : MethodName) jdk_116_method_1_code 4 (some .int) ({ frames := 0, cells := 0, slots := 0, locals := 0 } : Room) #[.ref t, .int x] h0 (RV fun w h => ∃ z : Int32, w = .int z ∧ ((z &&& 28672 = 16384) ↔ wsP x) ∧ h0 = h) := by
  refine Ctr.body (plainFor_of_name pn_2) hE hO (fun x q => nomatch q) (L0 := #[.val (.ref t), .val (.int x), .unset, .unset]) (fun m => by first | (simp [entryFrame, mkF, argsToLocals, Value.category, maxLocals]; done) | rfl) ?_
  intro p e s m below meth c T0 W0
  obtain ⟨ins, D, -, -, SA, cl, AA, hA⟩ := id hL
  obtain ⟨k, hk, rfl⟩ := ch_cases hx
  refine Go.iload_n W0.cx d_jdk_116_method_1_0 (v := (Int32.ofNat k)) rfl ?_
  refine Go.i2c W0.cx d_jdk_116_method_1_1 ?_
  refine Go.top (i2c_ch hx) ?_
  refine Go.istore_n W0.cx d_jdk_116_method_1_2 (L' := #[.val (.ref t), .val (.int (Int32.ofNat k)), .val (.int (Int32.ofNat k)), .unset]) rfl ?_
  refine Go.gets W0 d_jdk_116_method_1_3 (wd hw 167 rfl) Via.refl SA ?_
  intro T1 W1
  refine Go.iload_n W1.cx d_jdk_116_method_1_6 (v := (Int32.ofNat k)) rfl ?_
  refine Go.ialoadAt W1 k d_jdk_116_method_1_7 (AA.ext hO.2) rfl (by omega) (v := .int (TBL.getD k 0)) (hA k hk) ?_
  refine Go.istore_n W1.cx d_jdk_116_method_1_8 (L' := #[.val (.ref t), .val (.int (Int32.ofNat k)), .val (.int (Int32.ofNat k)), .val (.int (TBL.getD k 0))]) rfl ?_
  refine Go.iload_n W1.cx d_jdk_116_method_1_9 (v := (TBL.getD k 0)) rfl ?_
  exact Go.iret W1 d_jdk_116_method_1_10 (by simp) rfl (by decide) (by decide) ⟨_, rfl, _, rfl, tbl_ws ⟨k, hk⟩, rfl⟩
theorem d_jdk_116_method_26_0 : Dec jdk_116_method_26_code 0 (.aload_n 0) 1 1 := ⟨by decide +kernel, rfl⟩
theorem d_jdk_116_method_26_1 : Dec jdk_116_method_26_code 1 (.iload_n 1) 1 2 := ⟨by decide +kernel, rfl⟩
theorem d_jdk_116_method_26_2 : Dec jdk_116_method_26_code 2 (.invokevirtual 15) 3 5 := ⟨by decide +kernel, rfl⟩
theorem pd_0 : parseMethodDescriptor "(I)I" = some ⟨[.int], some .int⟩ := by decide +kernel
theorem d_jdk_116_method_26_5 : Dec jdk_116_method_26_code 5 (.istore_n 2) 1 6 := ⟨by decide +kernel, rfl⟩
theorem d_jdk_116_method_26_6 : Dec jdk_116_method_26_code 6 (.iload_n 2) 1 7 := ⟨by decide +kernel, rfl⟩
theorem d_jdk_116_method_26_7 : Dec jdk_116_method_26_code 7 (.sipush 28672) 3 10 := ⟨by decide +kernel, rfl⟩
theorem d_jdk_116_method_26_10 : Dec jdk_116_method_26_code 10 (.iand) 1 11 := ⟨by decide +kernel, rfl⟩
theorem d_jdk_116_method_26_11 : Dec jdk_116_method_26_code 11 (.sipush 16384) 3 14 := ⟨by decide +kernel, rfl⟩
theorem d_jdk_116_method_26_14 : Dec jdk_116_method_26_code 14 (.if_icmp .ne 7) 3 17 := ⟨by decide +kernel, rfl⟩
theorem d_jdk_116_method_26_21 : Dec jdk_116_method_26_code 21 (.iconst 0) 1 22 := ⟨by decide +kernel, rfl⟩
theorem d_jdk_116_method_26_22 : Dec jdk_116_method_26_code 22 (.ireturn) 1 23 := ⟨by decide +kernel, rfl⟩
theorem d_jdk_116_method_26_17 : Dec jdk_116_method_26_code 17 (.iconst 1) 1 18 := ⟨by decide +kernel, rfl⟩
theorem d_jdk_116_method_26_18 : Dec jdk_116_method_26_code 18 (.goto 4) 3 21 := ⟨by decide +kernel, rfl⟩
set_option maxRecDepth 65536 in
set_option maxHeartbeats 40000000 in
theorem c_isws (l : Launch) (Z : State) (a0 : Array Value) (hw : ∀ d ∈ tables_1, d.before a0 Z = true) (hE : EW Z a0 EL0) {n0 : Nat} {h0 : Heap} (hO : Old Z n0 h0) (hL : Lat Z) {t : Addr} (Et : Exa Z h0 t "java/lang/CharacterDataLatin1") {x : Int32} (hx : ¬ x < 0 ∧ ¬ (255 : Int32) < x) :
    Ctr NW EL0 n0 Z [] l (⟨"java/lang/CharacterDataLatin1", "isWhitespace", "(I)Z"⟩ : MethodName) jdk_116_method_26_code 3 (some .boolean) ({ frames := 1, cells := 0, slots := 0, locals := 15 } : Room) #[.ref t, .int x] h0 (RV fun w h => ∃ z : Int32, w = .int z ∧ Bo (wsP x) z ∧ h0 = h) := by
  refine Ctr.body (plainFor_of_name pn_2) hE hO (fun x q => nomatch q) (L0 := #[.val (.ref t), .val (.int x), .unset]) (fun m => by first | (simp [entryFrame, mkF, argsToLocals, Value.category, maxLocals]; done) | rfl) ?_
  intro p e s m below meth c T0 W0
  refine Go.aload_n W0.cx d_jdk_116_method_26_0 (v := (.ref t)) rfl rfl ?_
  refine Go.iload_n W0.cx d_jdk_116_method_26_1 (v := x) rfl ?_
  refine Go.invv1 W0 (Ctr.call (wt := 0) (c_prop l Z a0 hw hE W0.old hL (t := t) hx) W0.ew (wd hw 166 rfl) (wd hw 156 rfl) (by simp) (by decide) (by decide)) d_jdk_116_method_26_2 (wd hw 162 rfl) (wd hw 163 rfl) (wd hw 165 rfl) (wd hw 164 rfl) (by decide) Et pd_0 rfl rfl (rest := []) rfl (Nat.le_of_eq rfl) (cells' := 0) (slots' := 0) rfl rfl (by decide) (by decide) ?_
  rintro T1 h1 _ W1 z1 ⟨y1, rfl, P1, e1⟩
  subst e1
  refine Go.istore_n W1.cx d_jdk_116_method_26_5 (L' := #[.val (.ref t), .val (.int x), .val (.int y1)]) rfl ?_
  refine Go.iload_n W1.cx d_jdk_116_method_26_6 (v := y1) rfl ?_
  refine Go.sipush W1.cx d_jdk_116_method_26_7 (z := (28672 : Int32)) rfl ?_
  refine Go.iand W1.cx d_jdk_116_method_26_10 ?_
  refine Go.sipush W1.cx d_jdk_116_method_26_11 (z := (16384 : Int32)) rfl ?_
  refine Go.icne W1.cx d_jdk_116_method_26_14 (by decide) (q := 21) rfl (fun c1 => ?_) (fun c1 => ?_)
  · refine Go.iconst W1.cx d_jdk_116_method_26_21 (z := (0 : Int32)) rfl ?_
    exact Go.iret W1 d_jdk_116_method_26_22 (by simp) rfl (by decide) (by decide) ⟨_, rfl, _, rfl, Bo.ff (fun z => c1 (P1.mpr z)), rfl⟩
  · refine Go.iconst W1.cx d_jdk_116_method_26_17 (z := (1 : Int32)) rfl ?_
    refine Go.goto W1.cx d_jdk_116_method_26_18 (by decide) (q := 22) rfl ?_
    exact Go.iret W1 d_jdk_116_method_26_22 (by simp) rfl (by decide) (by decide) ⟨_, rfl, _, rfl, Bo.tt (P1.mp c1), rfl⟩
theorem d_jdk_43_method_37_0 : Dec jdk_43_method_37_code 0 (.aload_n 0) 1 1 := ⟨by decide +kernel, rfl⟩
theorem d_jdk_43_method_37_1 : Dec jdk_43_method_37_code 1 (.arraylength) 1 2 := ⟨by decide +kernel, rfl⟩
theorem d_jdk_43_method_37_2 : Dec jdk_43_method_37_code 2 (.istore_n 1) 1 3 := ⟨by decide +kernel, rfl⟩
theorem d_jdk_43_method_37_3 : Dec jdk_43_method_37_code 3 (.iconst 0) 1 4 := ⟨by decide +kernel, rfl⟩
theorem d_jdk_43_method_37_4 : Dec jdk_43_method_37_code 4 (.istore_n 2) 1 5 := ⟨by decide +kernel, rfl⟩
theorem d_jdk_43_method_37_5 : Dec jdk_43_method_37_code 5 (.iload_n 2) 1 6 := ⟨by decide +kernel, rfl⟩
theorem d_jdk_43_method_37_6 : Dec jdk_43_method_37_code 6 (.iload_n 1) 1 7 := ⟨by decide +kernel, rfl⟩
theorem d_jdk_43_method_37_7 : Dec jdk_43_method_37_code 7 (.if_icmp .ge 40) 3 10 := ⟨by decide +kernel, rfl⟩
theorem d_jdk_43_method_37_47 : Dec jdk_43_method_37_code 47 (.iload_n 2) 1 48 := ⟨by decide +kernel, rfl⟩
theorem d_jdk_43_method_37_48 : Dec jdk_43_method_37_code 48 (.ireturn) 1 49 := ⟨by decide +kernel, rfl⟩
theorem d_jdk_43_method_37_10 : Dec jdk_43_method_37_code 10 (.aload_n 0) 1 11 := ⟨by decide +kernel, rfl⟩
theorem d_jdk_43_method_37_11 : Dec jdk_43_method_37_code 11 (.iload_n 2) 1 12 := ⟨by decide +kernel, rfl⟩
theorem d_jdk_43_method_37_12 : Dec jdk_43_method_37_code 12 (.invokestatic 50) 3 15 := ⟨by decide +kernel, rfl⟩
theorem pd_1 : parseMethodDescriptor "([BI)C" = some ⟨[(.array .byte), .int], some .char⟩ := by decide +kernel
theorem d_jdk_43_method_37_15 : Dec jdk_43_method_37_code 15 (.istore_n 3) 1 16 := ⟨by decide +kernel, rfl⟩
theorem d_jdk_43_method_37_16 : Dec jdk_43_method_37_code 16 (.iload_n 3) 1 17 := ⟨by decide +kernel, rfl⟩
theorem d_jdk_43_method_37_17 : Dec jdk_43_method_37_code 17 (.bipush 32) 2 19 := ⟨by decide +kernel, rfl⟩
theorem d_jdk_43_method_37_19 : Dec jdk_43_method_37_code 19 (.if_icmp .eq 22) 3 22 := ⟨by decide +kernel, rfl⟩
theorem d_jdk_43_method_37_41 : Dec jdk_43_method_37_code 41 (.iinc 2 1) 3 44 := ⟨by decide +kernel, rfl⟩
theorem d_jdk_43_method_37_44 : Dec jdk_43_method_37_code 44 (.goto (-39)) 3 47 := ⟨by decide +kernel, rfl⟩
theorem d_jdk_43_method_37_22 : Dec jdk_43_method_37_code 22 (.iload_n 3) 1 23 := ⟨by decide +kernel, rfl⟩
theorem d_jdk_43_method_37_23 : Dec jdk_43_method_37_code 23 (.bipush 9) 2 25 := ⟨by decide +kernel, rfl⟩
theorem d_jdk_43_method_37_25 : Dec jdk_43_method_37_code 25 (.if_icmp .eq 16) 3 28 := ⟨by decide +kernel, rfl⟩
theorem d_jdk_43_method_37_28 : Dec jdk_43_method_37_code 28 (.getstatic 66) 3 31 := ⟨by decide +kernel, rfl⟩
theorem d_jdk_43_method_37_31 : Dec jdk_43_method_37_code 31 (.iload_n 3) 1 32 := ⟨by decide +kernel, rfl⟩
theorem d_jdk_43_method_37_32 : Dec jdk_43_method_37_code 32 (.invokevirtual 211) 3 35 := ⟨by decide +kernel, rfl⟩
theorem pd_2 : parseMethodDescriptor "(I)Z" = some ⟨[.int], some .boolean⟩ := by decide +kernel
theorem d_jdk_43_method_37_35 : Dec jdk_43_method_37_code 35 (.ifCond .ne 6) 3 38 := ⟨by decide +kernel, rfl⟩
theorem d_jdk_43_method_37_38 : Dec jdk_43_method_37_code 38 (.goto 9) 3 41 := ⟨by decide +kernel, rfl⟩
set_option maxRecDepth 65536 in
set_option maxHeartbeats 40000000 in
theorem c_inw (l : Launch) (Z : State) (a0 : Array Value) (hw : ∀ d ∈ tables_1, d.before a0 Z = true) (hE : EW Z a0 EL0) {n0 : Nat} {h0 : Heap} (hO : Old Z n0 h0) (hL : Lat Z) {b : Addr} {kb : ClassId} {cs : List Int32} (A : BArr Z h0 b kb cs) (hpc : ∀ c ∈ cs, ¬ c < 0 ∧ ¬ (255 : Int32) < c) (hcl : cs.length ≤ 4000) :
    Ctr NW EL0 n0 Z [] l (⟨"java/lang/StringLatin1", "indexOfNonWhitespace", "([B)I"⟩ : MethodName) jdk_43_method_37_code 4 (some .int) ({ frames := 2, cells := 0, slots := 0, locals := 29 } : Room) #[.ref b] h0 (RV fun w h => ∃ i : Nat, w = .int (Int32.ofNat i) ∧ i ≤ cs.length ∧ (∀ t, t < i → wsP (cs.getD t 0)) ∧ (i < cs.length → ¬ wsP (cs.getD i 0)) ∧ h0 = h) := by
  refine Ctr.body (plainFor_of_name pn_1) hE hO (fun x q => nomatch q) (L0 := #[.val (.ref b), .unset, .unset, .unset]) (fun m => by first | (simp [entryFrame, mkF, argsToLocals, Value.category, maxLocals]; done) | rfl) ?_
  intro p e s m below meth c T0 W0
  obtain ⟨ins, D, SI, EI, -⟩ := id hL
  refine Go.aload_n W0.cx d_jdk_43_method_37_0 (v := (.ref b)) rfl rfl ?_
  refine Go.alen W0 d_jdk_43_method_37_1 A ?_
  refine Go.istore_n W0.cx d_jdk_43_method_37_2 (L' := #[.val (.ref b), .val (.int (Int32.ofNat cs.length)), .unset, .unset]) rfl ?_
  refine Go.iconst W0.cx d_jdk_43_method_37_3 (z := (0 : Int32)) rfl ?_
  refine Go.istore_n W0.cx d_jdk_43_method_37_4 (L' := #[.val (.ref b), .val (.int (Int32.ofNat cs.length)), .val (.int (0 : Int32)), .unset]) rfl ?_
  have loop : ∀ j i, i + j = cs.length → i ≤ cs.length → (∀ t, t < i → wsP (cs.getD t 0)) → ∀ (T : State) (s3 : Slot), (s3 = .unset ∨ ∃ x : Int32, s3 = .val (.int x)) → Wk NW EL0 n0 Z a0 "java/lang/StringLatin1" "indexOfNonWhitespace" jdk_43_method_37_code 4 (some .int) p l e ({ frames := 2, cells := 0, slots := 0, locals := 29 } : Room) s m #[.ref b] below meth c T h0 [] 0 0 → Go p e below (Endp NW EL0 n0 Z below s ({ frames := 2, cells := 0, slots := 0, locals := 29 } : Room).cells ({ frames := 2, cells := 0, slots := 0, locals := 29 } : Room).slots (RV fun w h => ∃ i : Nat, w = .int (Int32.ofNat i) ∧ i ≤ cs.length ∧ (∀ t, t < i → wsP (cs.getD t 0)) ∧ (i < cs.length → ¬ wsP (cs.getD i 0)) ∧ h0 = h)) T (mkF m 5 #[.val (.ref b), .val (.int (Int32.ofNat cs.length)), .val (.int (Int32.ofNat i)), s3] []) := by
    intro j
    induction j with
    | zero =>
      intro i hi hile hin T101 s3 hs3 W101
      refine Go.iload_n W101.cx d_jdk_43_method_37_5 (v := (Int32.ofNat i)) rfl ?_
      refine Go.iload_n W101.cx d_jdk_43_method_37_6 (v := (Int32.ofNat cs.length)) rfl ?_
      refine Go.icge W101.cx d_jdk_43_method_37_7 (by decide) (q := 47) rfl (fun _ => ?_) (fun hh => (by first | exact absurd (show ¬ Int32.ofNat i < Int32.ofNat cs.length by rw [lt_nat (by omega) (by omega)]; omega) hh | exact absurd hh (show ¬ Int32.ofNat i < Int32.ofNat cs.length by rw [lt_nat (by omega) (by omega)]; omega)))
      refine Go.iload_n W101.cx d_jdk_43_method_37_47 (v := (Int32.ofNat i)) rfl ?_
      exact Go.iret W101 d_jdk_43_method_37_48 (by simp) rfl (by decide) (by decide) ⟨_, rfl, i, rfl, hile, hin, fun z => absurd z (by omega), rfl⟩
    | succ j ih =>
      intro i hi hile hin T101 s3 hs3 W101
      refine Go.iload_n W101.cx d_jdk_43_method_37_5 (v := (Int32.ofNat i)) rfl ?_
      refine Go.iload_n W101.cx d_jdk_43_method_37_6 (v := (Int32.ofNat cs.length)) rfl ?_
      refine Go.icge W101.cx d_jdk_43_method_37_7 (by decide) (q := 47) rfl (fun hh => (by first | exact absurd (show Int32.ofNat i < Int32.ofNat cs.length by rw [lt_nat (by omega) (by omega)]; omega) hh | exact absurd hh (show Int32.ofNat i < Int32.ofNat cs.length by rw [lt_nat (by omega) (by omega)]; omega))) (fun _ => ?_)
      refine Go.aload_n W101.cx d_jdk_43_method_37_10 (v := (.ref b)) rfl rfl ?_
      refine Go.iload_n W101.cx d_jdk_43_method_37_11 (v := (Int32.ofNat i)) rfl ?_
      refine Go.invs1 W101 (Ctr.call (wt := 0) (c_getc l Z a0 hw hE W101.old A hpc hcl (i := i) (by omega)) W101.ew (wd hw 154 rfl) (wd hw 94 rfl) (by simp) (by decide) (by decide)) d_jdk_43_method_37_12 (wd hw 152 rfl) (wd hw 153 rfl) (wd hw 94 rfl) (wd hw 154 rfl) (by decide) pd_1 rfl rfl (rest := []) rfl (Nat.le_of_eq rfl) (cells' := 0) (slots' := 0) rfl rfl (by decide) (by decide) ?_
      rintro T102 h102 _ W102 z102 ⟨rfl, e102⟩
      subst e102
      have hrg := getD_ch hpc (i := i) (by omega)
      obtain ⟨cc, hcc⟩ : ∃ z : Int32, z = (cs.getD i 0) := ⟨_, rfl⟩
      refine Go.top hcc.symm ?_
      rw [← hcc] at hrg
      refine Go.istore_n W102.cx d_jdk_43_method_37_15 (L' := #[.val (.ref b), .val (.int (Int32.ofNat cs.length)), .val (.int (Int32.ofNat i)), .val (.int cc)]) (by rcases hs3 with rfl | ⟨_, rfl⟩ <;> rfl) ?_
      refine Go.iload_n W102.cx d_jdk_43_method_37_16 (v := cc) rfl ?_
      refine Go.bipush W102.cx d_jdk_43_method_37_17 (z := (32 : Int32)) rfl ?_
      have J : wsP cc → ∀ (T : State), Wk NW EL0 n0 Z a0 "java/lang/StringLatin1" "indexOfNonWhitespace" jdk_43_method_37_code 4 (some .int) p l e ({ frames := 2, cells := 0, slots := 0, locals := 29 } : Room) s m #[.ref b] below meth c T h0 [] 0 0 → Go p e below (Endp NW EL0 n0 Z below s ({ frames := 2, cells := 0, slots := 0, locals := 29 } : Room).cells ({ frames := 2, cells := 0, slots := 0, locals := 29 } : Room).slots (RV fun w h => ∃ i : Nat, w = .int (Int32.ofNat i) ∧ i ≤ cs.length ∧ (∀ t, t < i → wsP (cs.getD t 0)) ∧ (i < cs.length → ¬ wsP (cs.getD i 0)) ∧ h0 = h)) T (mkF m 41 #[.val (.ref b), .val (.int (Int32.ofNat cs.length)), .val (.int (Int32.ofNat i)), .val (.int cc)] []) := by
        intro hws T201 W201
        refine Go.iinc W201.cx d_jdk_43_method_37_41 (z := (Int32.ofNat (i + 1))) (L' := #[.val (.ref b), .val (.int (Int32.ofNat cs.length)), .val (.int (Int32.ofNat (i + 1))), .val (.int cc)]) rfl (add1_nat i) rfl ?_
        refine Go.goto W201.cx d_jdk_43_method_37_44 (by decide) (q := 5) rfl ?_
        exact ih (i + 1) (by omega) (by omega) (fun t ht => by rcases Nat.lt_or_eq_of_le (Nat.le_of_lt_succ ht) with z | z; exact hin t z; rw [z, ← hcc]; exact hws) _ _ (Or.inr ⟨_, rfl⟩) W201
      refine Go.iceq W102.cx d_jdk_43_method_37_19 (by decide) (q := 41) rfl (fun d1 => ?_) (fun d1 => ?_)
      · exact J (by rw [d1]; decide) _ W102
      · refine Go.iload_n W102.cx d_jdk_43_method_37_22 (v := cc) rfl ?_
        refine Go.bipush W102.cx d_jdk_43_method_37_23 (z := (9 : Int32)) rfl ?_
        refine Go.iceq W102.cx d_jdk_43_method_37_25 (by decide) (q := 41) rfl (fun d2 => ?_) (fun d2 => ?_)
        · exact J (by rw [d2]; decide) _ W102
        · refine Go.gets W102 d_jdk_43_method_37_28 (wd hw 155 rfl) Via.refl SI ?_
          intro T103 W103
          refine Go.iload_n W103.cx d_jdk_43_method_37_31 (v := cc) rfl ?_
          refine Go.invv1 W103 (Ctr.call (wt := 0) (c_isws l Z a0 hw hE W103.old hL (EI.ext W103.old.2) hrg) W103.ew (wd hw 161 rfl) (wd hw 156 rfl) (by simp) (by decide) (by decide)) d_jdk_43_method_37_32 (wd hw 157 rfl) (wd hw 158 rfl) (wd hw 160 rfl) (wd hw 159 rfl) (by decide) (EI.ext W103.old.2) pd_2 rfl rfl (rest := []) rfl (Nat.le_of_eq rfl) (cells' := 0) (slots' := 0) rfl rfl (by decide) (by decide) ?_
          rintro T104 h104 _ W104 z104 ⟨y104, rfl, B104, e104⟩
          subst e104
          refine Go.ifne W104.cx d_jdk_43_method_37_35 (by decide) (q := 41) rfl (fun d3 => ?_) (fun d3 => ?_)
          · exact J (B104.yes d3) _ W104
          · refine Go.goto W104.cx d_jdk_43_method_37_38 (by decide) (q := 47) rfl ?_
            refine Go.iload_n W104.cx d_jdk_43_method_37_47 (v := (Int32.ofNat i)) rfl ?_
            exact Go.iret W104 d_jdk_43_method_37_48 (by simp) rfl (by decide) (by decide) ⟨_, rfl, i, rfl, hile, hin, fun _ => hcc ▸ B104.no d3, rfl⟩
  exact loop cs.length 0 (by omega) (Nat.zero_le _) (fun t ht => absurd ht (Nat.not_lt_zero _)) _ _ (Or.inl rfl) W0
theorem d_jdk_43_method_38_0 : Dec jdk_43_method_38_code 0 (.aload_n 0) 1 1 := ⟨by decide +kernel, rfl⟩
theorem d_jdk_43_method_38_1 : Dec jdk_43_method_38_code 1 (.arraylength) 1 2 := ⟨by decide +kernel, rfl⟩
theorem d_jdk_43_method_38_2 : Dec jdk_43_method_38_code 2 (.istore_n 1) 1 3 := ⟨by decide +kernel, rfl⟩
theorem d_jdk_43_method_38_3 : Dec jdk_43_method_38_code 3 (.iload_n 1) 1 4 := ⟨by decide +kernel, rfl⟩
theorem d_jdk_43_method_38_4 : Dec jdk_43_method_38_code 4 (.istore_n 2) 1 5 := ⟨by decide +kernel, rfl⟩
theorem d_jdk_43_method_38_5 : Dec jdk_43_method_38_code 5 (.iconst 0) 1 6 := ⟨by decide +kernel, rfl⟩
theorem d_jdk_43_method_38_6 : Dec jdk_43_method_38_code 6 (.iload_n 2) 1 7 := ⟨by decide +kernel, rfl⟩
theorem d_jdk_43_method_38_7 : Dec jdk_43_method_38_code 7 (.if_icmp .ge 42) 3 10 := ⟨by decide +kernel, rfl⟩
theorem d_jdk_43_method_38_49 : Dec jdk_43_method_38_code 49 (.iload_n 2) 1 50 := ⟨by decide +kernel, rfl⟩
theorem d_jdk_43_method_38_50 : Dec jdk_43_method_38_code 50 (.ireturn) 1 51 := ⟨by decide +kernel, rfl⟩
theorem d_jdk_43_method_38_10 : Dec jdk_43_method_38_code 10 (.aload_n 0) 1 11 := ⟨by decide +kernel, rfl⟩
theorem d_jdk_43_method_38_11 : Dec jdk_43_method_38_code 11 (.iload_n 2) 1 12 := ⟨by decide +kernel, rfl⟩
theorem d_jdk_43_method_38_12 : Dec jdk_43_method_38_code 12 (.iconst 1) 1 13 := ⟨by decide +kernel, rfl⟩
theorem d_jdk_43_method_38_13 : Dec jdk_43_method_38_code 13 (.isub) 1 14 := ⟨by decide +kernel, rfl⟩
theorem d_jdk_43_method_38_14 : Dec jdk_43_method_38_code 14 (.invokestatic 50) 3 17 := ⟨by decide +kernel, rfl⟩
theorem d_jdk_43_method_38_17 : Dec jdk_43_method_38_code 17 (.istore_n 3) 1 18 := ⟨by decide +kernel, rfl⟩
theorem d_jdk_43_method_38_18 : Dec jdk_43_method_38_code 18 (.iload_n 3) 1 19 := ⟨by decide +kernel, rfl⟩
theorem d_jdk_43_method_38_19 : Dec jdk_43_method_38_code 19 (.bipush 32) 2 21 := ⟨by decide +kernel, rfl⟩
theorem d_jdk_43_method_38_21 : Dec jdk_43_method_38_code 21 (.if_icmp .eq 22) 3 24 := ⟨by decide +kernel, rfl⟩
theorem d_jdk_43_method_38_43 : Dec jdk_43_method_38_code 43 (.iinc 2 (-1)) 3 46 := ⟨by decide +kernel, rfl⟩
theorem d_jdk_43_method_38_46 : Dec jdk_43_method_38_code 46 (.goto (-41)) 3 49 := ⟨by decide +kernel, rfl⟩
theorem d_jdk_43_method_38_24 : Dec jdk_43_method_38_code 24 (.iload_n 3) 1 25 := ⟨by decide +kernel, rfl⟩
theorem d_jdk_43_method_38_25 : Dec jdk_43_method_38_code 25 (.bipush 9) 2 27 := ⟨by decide +kernel, rfl⟩
theorem d_jdk_43_method_38_27 : Dec jdk_43_method_38_code 27 (.if_icmp .eq 16) 3 30 := ⟨by decide +kernel, rfl⟩
theorem d_jdk_43_method_38_30 : Dec jdk_43_method_38_code 30 (.getstatic 66) 3 33 := ⟨by decide +kernel, rfl⟩
theorem d_jdk_43_method_38_33 : Dec jdk_43_method_38_code 33 (.iload_n 3) 1 34 := ⟨by decide +kernel, rfl⟩
theorem d_jdk_43_method_38_34 : Dec jdk_43_method_38_code 34 (.invokevirtual 211) 3 37 := ⟨by decide +kernel, rfl⟩
theorem d_jdk_43_method_38_37 : Dec jdk_43_method_38_code 37 (.ifCond .ne 6) 3 40 := ⟨by decide +kernel, rfl⟩
theorem d_jdk_43_method_38_40 : Dec jdk_43_method_38_code 40 (.goto 9) 3 43 := ⟨by decide +kernel, rfl⟩
set_option maxRecDepth 65536 in
set_option maxHeartbeats 40000000 in
theorem c_linw (l : Launch) (Z : State) (a0 : Array Value) (hw : ∀ d ∈ tables_1, d.before a0 Z = true) (hE : EW Z a0 EL0) {n0 : Nat} {h0 : Heap} (hO : Old Z n0 h0) (hL : Lat Z) {b : Addr} {kb : ClassId} {cs : List Int32} (A : BArr Z h0 b kb cs) (hpc : ∀ c ∈ cs, ¬ c < 0 ∧ ¬ (255 : Int32) < c) (hcl : cs.length ≤ 4000) :
    Ctr NW EL0 n0 Z [] l (⟨"java/lang/StringLatin1", "lastIndexOfNonWhitespace", "([B)I"⟩ : MethodName) jdk_43_method_38_code 4 (some .int) ({ frames := 2, cells := 0, slots := 0, locals := 29 } : Room) #[.ref b] h0 (RV fun w h => ∃ i : Nat, w = .int (Int32.ofNat i) ∧ i ≤ cs.length ∧ (∀ t, i ≤ t → t < cs.length → wsP (cs.getD t 0)) ∧ (0 < i → ¬ wsP (cs.getD (i - 1) 0)) ∧ h0 = h) := by
  refine Ctr.body (plainFor_of_name pn_1) hE hO (fun x q => nomatch q) (L0 := #[.val (.ref b), .unset, .unset, .unset]) (fun m => by first | (simp [entryFrame, mkF, argsToLocals, Value.category, maxLocals]; done) | rfl) ?_
  intro p e s m below meth c T0 W0
  obtain ⟨ins, D, SI, EI, -⟩ := id hL
  refine Go.aload_n W0.cx d_jdk_43_method_38_0 (v := (.ref b)) rfl rfl ?_
  refine Go.alen W0 d_jdk_43_method_38_1 A ?_
  refine Go.istore_n W0.cx d_jdk_43_method_38_2 (L' := #[.val (.ref b), .val (.int (Int32.ofNat cs.length)), .unset, .unset]) rfl ?_
  refine Go.iload_n W0.cx d_jdk_43_method_38_3 (v := (Int32.ofNat cs.length)) rfl ?_
  refine Go.istore_n W0.cx d_jdk_43_method_38_4 (L' := #[.val (.ref b), .val (.int (Int32.ofNat cs.length)), .val (.int (Int32.ofNat cs.length)), .unset]) rfl ?_
  have loop : ∀ j i, i = j → i ≤ cs.length → (∀ t, i ≤ t → t < cs.length → wsP (cs.getD t 0)) → ∀ (T : State) (s3 : Slot), (s3 = .unset ∨ ∃ x : Int32, s3 = .val (.int x)) → Wk NW EL0 n0 Z a0 "java/lang/StringLatin1" "lastIndexOfNonWhitespace" jdk_43_method_38_code 4 (some .int) p l e ({ frames := 2, cells := 0, slots := 0, locals := 29 } : Room) s m #[.ref b] below meth c T h0 [] 0 0 → Go p e below (Endp NW EL0 n0 Z below s ({ frames := 2, cells := 0, slots := 0, locals := 29 } : Room).cells ({ frames := 2, cells := 0, slots := 0, locals := 29 } : Room).slots (RV fun w h => ∃ i : Nat, w = .int (Int32.ofNat i) ∧ i ≤ cs.length ∧ (∀ t, i ≤ t → t < cs.length → wsP (cs.getD t 0)) ∧ (0 < i → ¬ wsP (cs.getD (i - 1) 0)) ∧ h0 = h)) T (mkF m 5 #[.val (.ref b), .val (.int (Int32.ofNat cs.length)), .val (.int (Int32.ofNat i)), s3] []) := by
    intro j
    induction j with
    | zero =>
      intro i hi hile hin T101 s3 hs3 W101
      refine Go.iconst W101.cx d_jdk_43_method_38_5 (z := (0 : Int32)) rfl ?_
      refine Go.iload_n W101.cx d_jdk_43_method_38_6 (v := (Int32.ofNat i)) rfl ?_
      refine Go.icge W101.cx d_jdk_43_method_38_7 (by decide) (q := 49) rfl (fun _ => ?_) (fun hh => (by first | exact absurd (show ¬ Int32.ofNat 0 < Int32.ofNat i by rw [lt_nat (by omega) (by omega)]; omega) hh | exact absurd hh (show ¬ Int32.ofNat 0 < Int32.ofNat i by rw [lt_nat (by omega) (by omega)]; omega)))
      refine Go.iload_n W101.cx d_jdk_43_method_38_49 (v := (Int32.ofNat i)) rfl ?_
      exact Go.iret W101 d_jdk_43_method_38_50 (by simp) rfl (by decide) (by decide) ⟨_, rfl, i, rfl, hile, hin, fun z => absurd z (by omega), rfl⟩
    | succ j ih =>
      intro i hi hile hin T101 s3 hs3 W101
      refine Go.iconst W101.cx d_jdk_43_method_38_5 (z := (0 : Int32)) rfl ?_
      refine Go.iload_n W101.cx d_jdk_43_method_38_6 (v := (Int32.ofNat i)) rfl ?_
      refine Go.icge W101.cx d_jdk_43_method_38_7 (by decide) (q := 49) rfl (fun hh => (by first | exact absurd (show Int32.ofNat 0 < Int32.ofNat i by rw [lt_nat (by omega) (by omega)]; omega) hh | exact absurd hh (show Int32.ofNat 0 < Int32.ofNat i by rw [lt_nat (by omega) (by omega)]; omega))) (fun _ => ?_)
      refine Go.aload_n W101.cx d_jdk_43_method_38_10 (v := (.ref b)) rfl rfl ?_
      refine Go.iload_n W101.cx d_jdk_43_method_38_11 (v := (Int32.ofNat i)) rfl ?_
      refine Go.iconst W101.cx d_jdk_43_method_38_12 (z := (1 : Int32)) rfl ?_
      refine Go.isub W101.cx d_jdk_43_method_38_13 ?_
      refine Go.top (sub1_nat (by omega) (by omega)) ?_
      refine Go.invs1 W101 (Ctr.call (wt := 0) (c_getc l Z a0 hw hE W101.old A hpc hcl (i := (i - 1)) (by omega)) W101.ew (wd hw 154 rfl) (wd hw 94 rfl) (by simp) (by decide) (by decide)) d_jdk_43_method_38_14 (wd hw 152 rfl) (wd hw 153 rfl) (wd hw 94 rfl) (wd hw 154 rfl) (by decide) pd_1 rfl rfl (rest := []) rfl (Nat.le_of_eq rfl) (cells' := 0) (slots' := 0) rfl rfl (by decide) (by decide) ?_
      rintro T102 h102 _ W102 z102 ⟨rfl, e102⟩
      subst e102
      have hrg := getD_ch hpc (i := (i - 1)) (by omega)
      obtain ⟨cc, hcc⟩ : ∃ z : Int32, z = (cs.getD (i - 1) 0) := ⟨_, rfl⟩
      refine Go.top hcc.symm ?_
      rw [← hcc] at hrg
      refine Go.istore_n W102.cx d_jdk_43_method_38_17 (L' := #[.val (.ref b), .val (.int (Int32.ofNat cs.length)), .val (.int (Int32.ofNat i)), .val (.int cc)]) (by rcases hs3 with rfl | ⟨_, rfl⟩ <;> rfl) ?_
      refine Go.iload_n W102.cx d_jdk_43_method_38_18 (v := cc) rfl ?_
      refine Go.bipush W102.cx d_jdk_43_method_38_19 (z := (32 : Int32)) rfl ?_
      have J : wsP cc → ∀ (T : State), Wk NW EL0 n0 Z a0 "java/lang/StringLatin1" "lastIndexOfNonWhitespace" jdk_43_method_38_code 4 (some .int) p l e ({ frames := 2, cells := 0, slots := 0, locals := 29 } : Room) s m #[.ref b] below meth c T h0 [] 0 0 → Go p e below (Endp NW EL0 n0 Z below s ({ frames := 2, cells := 0, slots := 0, locals := 29 } : Room).cells ({ frames := 2, cells := 0, slots := 0, locals := 29 } : Room).slots (RV fun w h => ∃ i : Nat, w = .int (Int32.ofNat i) ∧ i ≤ cs.length ∧ (∀ t, i ≤ t → t < cs.length → wsP (cs.getD t 0)) ∧ (0 < i → ¬ wsP (cs.getD (i - 1) 0)) ∧ h0 = h)) T (mkF m 43 #[.val (.ref b), .val (.int (Int32.ofNat cs.length)), .val (.int (Int32.ofNat i)), .val (.int cc)] []) := by
        intro hws T201 W201
        refine Go.iinc W201.cx d_jdk_43_method_38_43 (z := (Int32.ofNat (i - 1))) (L' := #[.val (.ref b), .val (.int (Int32.ofNat cs.length)), .val (.int (Int32.ofNat (i - 1))), .val (.int cc)]) rfl (dec1_nat (by omega) (by omega)) rfl ?_
        refine Go.goto W201.cx d_jdk_43_method_38_46 (by decide) (q := 5) rfl ?_
        exact ih (i - 1) (by omega) (by omega) (fun t h1 h2 => by rcases Nat.lt_or_ge t i with z | z; rw [show t = i - 1 by omega, ← hcc]; exact hws; exact hin t z h2) _ _ (Or.inr ⟨_, rfl⟩) W201
      refine Go.iceq W102.cx d_jdk_43_method_38_21 (by decide) (q := 43) rfl (fun d1 => ?_) (fun d1 => ?_)
      · exact J (by rw [d1]; decide) _ W102
      · refine Go.iload_n W102.cx d_jdk_43_method_38_24 (v := cc) rfl ?_
        refine Go.bipush W102.cx d_jdk_43_method_38_25 (z := (9 : Int32)) rfl ?_
        refine Go.iceq W102.cx d_jdk_43_method_38_27 (by decide) (q := 43) rfl (fun d2 => ?_) (fun d2 => ?_)
        · exact J (by rw [d2]; decide) _ W102
        · refine Go.gets W102 d_jdk_43_method_38_30 (wd hw 155 rfl) Via.refl SI ?_
          intro T103 W103
          refine Go.iload_n W103.cx d_jdk_43_method_38_33 (v := cc) rfl ?_
          refine Go.invv1 W103 (Ctr.call (wt := 0) (c_isws l Z a0 hw hE W103.old hL (EI.ext W103.old.2) hrg) W103.ew (wd hw 161 rfl) (wd hw 156 rfl) (by simp) (by decide) (by decide)) d_jdk_43_method_38_34 (wd hw 157 rfl) (wd hw 158 rfl) (wd hw 160 rfl) (wd hw 159 rfl) (by decide) (EI.ext W103.old.2) pd_2 rfl rfl (rest := []) rfl (Nat.le_of_eq rfl) (cells' := 0) (slots' := 0) rfl rfl (by decide) (by decide) ?_
          rintro T104 h104 _ W104 z104 ⟨y104, rfl, B104, e104⟩
          subst e104
          refine Go.ifne W104.cx d_jdk_43_method_38_37 (by decide) (q := 43) rfl (fun d3 => ?_) (fun d3 => ?_)
          · exact J (B104.yes d3) _ W104
          · refine Go.goto W104.cx d_jdk_43_method_38_40 (by decide) (q := 49) rfl ?_
            refine Go.iload_n W104.cx d_jdk_43_method_38_49 (v := (Int32.ofNat i)) rfl ?_
            exact Go.iret W104 d_jdk_43_method_38_50 (by simp) rfl (by decide) (by decide) ⟨_, rfl, i, rfl, hile, hin, fun _ => hcc ▸ B104.no d3, rfl⟩
  exact loop cs.length cs.length rfl (Nat.le_refl _) (fun t h1 h2 => absurd h1 (by omega)) _ _ (Or.inl rfl) W0
theorem pn_3 : plainName "java/util/Arrays" = true := by first | (simp [plainName, overriddenIn]; done) | decide +kernel
theorem d_jdk_65_method_131_0 : Dec jdk_65_method_131_code 0 (.iload_n 1) 1 1 := ⟨by decide +kernel, rfl⟩
theorem d_jdk_65_method_131_1 : Dec jdk_65_method_131_code 1 (.iload_n 0) 1 2 := ⟨by decide +kernel, rfl⟩
theorem d_jdk_65_method_131_2 : Dec jdk_65_method_131_code 2 (.if_icmp .ge 35) 3 5 := ⟨by decide +kernel, rfl⟩
theorem d_jdk_65_method_131_37 : Dec jdk_65_method_131_code 37 (.return_) 1 38 := ⟨by decide +kernel, rfl⟩
set_option maxRecDepth 65536 in
set_option maxHeartbeats 40000000 in
theorem c_ckl2 (l : Launch) (Z : State) (a0 : Array Value) (hw : ∀ d ∈ tables_1, d.before a0 Z = true) (hE : EW Z a0 EL0) {n0 : Nat} {h0 : Heap} (hO : Old Z n0 h0) {f n : Nat} (hn : f + n ≤ 4000) :
    Ctr NW EL0 n0 Z [] l (⟨"java/util/Arrays", "checkLength", "(II)V"⟩ : MethodName) jdk_65_method_131_code 2 none ({ frames := 0, cells := 0, slots := 0, locals := 0 } : Room) #[.int (Int32.ofNat f), .int (Int32.ofNat (f + n))] h0 (RN fun h => h0 = h) := by
  refine Ctr.body (plainFor_of_name pn_3) hE hO (fun x q => nomatch q) (L0 := #[.val (.int (Int32.ofNat f)), .val (.int (Int32.ofNat (f + n)))]) (fun m => by first | (simp [entryFrame, mkF, argsToLocals, Value.category, maxLocals]; done) | rfl) ?_
  intro p e s m below meth c T0 W0
  refine Go.iload_n W0.cx d_jdk_65_method_131_0 (v := (Int32.ofNat (f + n))) rfl ?_
  refine Go.iload_n W0.cx d_jdk_65_method_131_1 (v := (Int32.ofNat f)) rfl ?_
  refine Go.icge W0.cx d_jdk_65_method_131_2 (by decide) (q := 37) rfl (fun _ => ?_) (fun hh => (by first | exact absurd (show ¬ Int32.ofNat (f + n) < Int32.ofNat f by rw [lt_nat (by omega) (by omega)]; omega) hh | exact absurd hh (show ¬ Int32.ofNat (f + n) < Int32.ofNat f by rw [lt_nat (by omega) (by omega)]; omega)))
  exact Go.vret W0 d_jdk_65_method_131_37 (by decide) (by decide) ⟨rfl, rfl⟩
theorem d_jdk_29_method_69_0 : Dec jdk_29_method_69_code 0 (.iload_n 0) 1 1 := ⟨by decide +kernel, rfl⟩
theorem d_jdk_29_method_69_1 : Dec jdk_29_method_69_code 1 (.iload_n 1) 1 2 := ⟨by decide +kernel, rfl⟩
theorem d_jdk_29_method_69_2 : Dec jdk_29_method_69_code 2 (.if_icmp .gt 7) 3 5 := ⟨by decide +kernel, rfl⟩
theorem d_jdk_29_method_69_9 : Dec jdk_29_method_69_code 9 (.iload_n 1) 1 10 := ⟨by decide +kernel, rfl⟩
theorem d_jdk_29_method_69_10 : Dec jdk_29_method_69_code 10 (.ireturn) 1 11 := ⟨by decide +kernel, rfl⟩
theorem d_jdk_29_method_69_5 : Dec jdk_29_method_69_code 5 (.iload_n 0) 1 6 := ⟨by decide +kernel, rfl⟩
theorem d_jdk_29_method_69_6 : Dec jdk_29_method_69_code 6 (.goto 4) 3 9 := ⟨by decide +kernel, rfl⟩
set_option maxRecDepth 65536 in
set_option maxHeartbeats 40000000 in
theorem c_minN2 (l : Launch) (Z : State) (a0 : Array Value) (hw : ∀ d ∈ tables_1, d.before a0 Z = true) (hE : EW Z a0 EL0) {n0 : Nat} {h0 : Heap} (hO : Old Z n0 h0) {u n : Nat} (hn : n ≤ u) (hu : u ≤ 4000) :
    Ctr NW EL0 n0 Z [] l (⟨"java/lang/Math", "min", "(II)I"⟩ : MethodName) jdk_29_method_69_code 2 (some .int) ({ frames := 0, cells := 0, slots := 0, locals := 0 } : Room) #[.int (Int32.ofNat u), .int (Int32.ofNat n)] h0 (RV fun w h => w = .int (Int32.ofNat n) ∧ h0 = h) := by
  refine Ctr.body (by decide +kernel) hE hO (fun x q => nomatch q) (L0 := #[.val (.int (Int32.ofNat u)), .val (.int (Int32.ofNat n))]) (fun m => by first | (simp [entryFrame, mkF, argsToLocals, Value.category, maxLocals]; done) | rfl) ?_
  intro p e s m below meth c T0 W0
  refine Go.iload_n W0.cx d_jdk_29_method_69_0 (v := (Int32.ofNat u)) rfl ?_
  refine Go.iload_n W0.cx d_jdk_29_method_69_1 (v := (Int32.ofNat n)) rfl ?_
  refine Go.icgt W0.cx d_jdk_29_method_69_2 (by decide) (q := 9) rfl (fun c1 => ?_) (fun c1 => ?_)
  · refine Go.iload_n W0.cx d_jdk_29_method_69_9 (v := (Int32.ofNat n)) rfl ?_
    exact Go.iret W0 d_jdk_29_method_69_10 (by simp) rfl (by decide) (by decide) ⟨_, rfl, rfl, rfl⟩
  · refine Go.iload_n W0.cx d_jdk_29_method_69_5 (v := (Int32.ofNat u)) rfl ?_
    refine Go.goto W0.cx d_jdk_29_method_69_6 (by decide) (q := 10) rfl ?_
    exact Go.iret W0 d_jdk_29_method_69_10 (by simp) rfl (by decide) (by decide) ⟨_, rfl, by rw [show u = n from by have : ¬ n < u := fun z => c1 ((lt_nat (by omega) (by omega)).mpr z); omega], rfl⟩
theorem d_jdk_65_method_133_0 : Dec jdk_65_method_133_code 0 (.iload_n 1) 1 1 := ⟨by decide +kernel, rfl⟩
theorem d_jdk_65_method_133_1 : Dec jdk_65_method_133_code 1 (.iload_n 2) 1 2 := ⟨by decide +kernel, rfl⟩
theorem d_jdk_65_method_133_2 : Dec jdk_65_method_133_code 2 (.invokestatic 343) 3 5 := ⟨by decide +kernel, rfl⟩
theorem pd_3 : parseMethodDescriptor "(II)V" = some ⟨[.int, .int], none⟩ := by decide +kernel
theorem d_jdk_65_method_133_5 : Dec jdk_65_method_133_code 5 (.iload_n 2) 1 6 := ⟨by decide +kernel, rfl⟩
theorem d_jdk_65_method_133_6 : Dec jdk_65_method_133_code 6 (.iload_n 1) 1 7 := ⟨by decide +kernel, rfl⟩
theorem d_jdk_65_method_133_7 : Dec jdk_65_method_133_code 7 (.isub) 1 8 := ⟨by decide +kernel, rfl⟩
theorem d_jdk_65_method_133_8 : Dec jdk_65_method_133_code 8 (.istore_n 3) 1 9 := ⟨by decide +kernel, rfl⟩
theorem d_jdk_65_method_133_9 : Dec jdk_65_method_133_code 9 (.iload_n 3) 1 10 := ⟨by decide +kernel, rfl⟩
theorem d_jdk_65_method_133_10 : Dec jdk_65_method_133_code 10 (.newarray .byte) 2 12 := ⟨by decide +kernel, rfl⟩
theorem d_jdk_65_method_133_12 : Dec jdk_65_method_133_code 12 (.astore 4) 2 14 := ⟨by decide +kernel, rfl⟩
theorem d_jdk_65_method_133_14 : Dec jdk_65_method_133_code 14 (.aload_n 0) 1 15 := ⟨by decide +kernel, rfl⟩
theorem d_jdk_65_method_133_15 : Dec jdk_65_method_133_code 15 (.iload_n 1) 1 16 := ⟨by decide +kernel, rfl⟩
theorem d_jdk_65_method_133_16 : Dec jdk_65_method_133_code 16 (.aload 4) 2 18 := ⟨by decide +kernel, rfl⟩
theorem d_jdk_65_method_133_18 : Dec jdk_65_method_133_code 18 (.iconst 0) 1 19 := ⟨by decide +kernel, rfl⟩
theorem d_jdk_65_method_133_19 : Dec jdk_65_method_133_code 19 (.aload_n 0) 1 20 := ⟨by decide +kernel, rfl⟩
theorem d_jdk_65_method_133_20 : Dec jdk_65_method_133_code 20 (.arraylength) 1 21 := ⟨by decide +kernel, rfl⟩
theorem d_jdk_65_method_133_21 : Dec jdk_65_method_133_code 21 (.iload_n 1) 1 22 := ⟨by decide +kernel, rfl⟩
theorem d_jdk_65_method_133_22 : Dec jdk_65_method_133_code 22 (.isub) 1 23 := ⟨by decide +kernel, rfl⟩
theorem d_jdk_65_method_133_23 : Dec jdk_65_method_133_code 23 (.iload_n 3) 1 24 := ⟨by decide +kernel, rfl⟩
theorem d_jdk_65_method_133_24 : Dec jdk_65_method_133_code 24 (.invokestatic 304) 3 27 := ⟨by decide +kernel, rfl⟩
theorem pd_4 : parseMethodDescriptor "(II)I" = some ⟨[.int, .int], some .int⟩ := by decide +kernel
theorem d_jdk_65_method_133_27 : Dec jdk_65_method_133_code 27 (.invokestatic 150) 3 30 := ⟨by decide +kernel, rfl⟩
theorem d_jdk_65_method_133_30 : Dec jdk_65_method_133_code 30 (.aload 4) 2 32 := ⟨by decide +kernel, rfl⟩
theorem d_jdk_65_method_133_32 : Dec jdk_65_method_133_code 32 (.areturn) 1 33 := ⟨by decide +kernel, rfl⟩
set_option maxRecDepth 65536 in
set_option maxHeartbeats 40000000 in
theorem c_corb2 (l : Launch) (Z : State) (a0 : Array Value) (hw : ∀ d ∈ tables_1, d.before a0 Z = true) (hE : EW Z a0 EL0) {n0 : Nat} {h0 : Heap} (hO : Old Z n0 h0) {b : Addr} {kb : ClassId} {cs : List Int32} (A : BArr Z h0 b kb cs) (hcl : cs.length ≤ 4000) {f n : Nat} (hn : f + n ≤ cs.length) (hlt : n < cs.length) (hcap : n ≤ 6) :
    Ctr NW EL0 n0 Z [] l (⟨"java/util/Arrays", "copyOfRangeByte", "([BII)[B"⟩ : MethodName) jdk_65_method_133_code 5 (some (.array .byte)) ({ frames := 1, cells := 1, slots := 6, locals := 18 } : Room) #[.ref b, .int (Int32.ofNat f), .int (Int32.ofNat (f + n))] h0 (RV fun w h => ∃ r kr, w = .ref r ∧ Ext h0 h ∧ h0.size ≤ r ∧ BArr Z h r kr ((cs.drop f).take n)) := by
  refine Ctr.body (plainFor_of_name pn_3) hE hO (fun x q => nomatch q) (L0 := #[.val (.ref b), .val (.int (Int32.ofNat f)), .val (.int (Int32.ofNat (f + n))), .unset, .unset]) (fun m => by first | (simp [entryFrame, mkF, argsToLocals, Value.category, maxLocals]; done) | rfl) ?_
  intro p e s m below meth c T0 W0
  refine Go.iload_n W0.cx d_jdk_65_method_133_0 (v := (Int32.ofNat f)) rfl ?_
  refine Go.iload_n W0.cx d_jdk_65_method_133_1 (v := (Int32.ofNat (f + n))) rfl ?_
  refine Go.invs0 W0 (Ctr.call (wt := 0) (c_ckl2 l Z a0 hw hE W0.old (f := f) (n := n) (by omega)) W0.ew (wd hw 129 rfl) (wd hw 122 rfl) (by simp) (by decide) (by decide)) d_jdk_65_method_133_2 (wd hw 127 rfl) (wd hw 128 rfl) (wd hw 122 rfl) (wd hw 129 rfl) (by decide) pd_3 rfl rfl (rest := []) rfl (Nat.le_of_eq rfl) (cells' := 0) (slots' := 0) rfl rfl (by decide) (by decide) ?_
  rintro T1 h1 W1 z1 e1
  subst e1
  refine Go.iload_n W1.cx d_jdk_65_method_133_5 (v := (Int32.ofNat (f + n))) rfl ?_
  refine Go.iload_n W1.cx d_jdk_65_method_133_6 (v := (Int32.ofNat f)) rfl ?_
  refine Go.isub W1.cx d_jdk_65_method_133_7 ?_
  refine Go.top (show Int32.ofNat (f + n) - Int32.ofNat f = Int32.ofNat n by rw [sub_nat (by omega) (by omega)]; congr 1; omega) ?_
  refine Go.istore_n W1.cx d_jdk_65_method_133_8 (L' := #[.val (.ref b), .val (.int (Int32.ofNat f)), .val (.int (Int32.ofNat (f + n))), .val (.int (Int32.ofNat n)), .unset]) rfl ?_
  refine Go.iload_n W1.cx d_jdk_65_method_133_9 (v := (Int32.ofNat n)) rfl ?_
  refine Go.newarr W1 d_jdk_65_method_133_10 (wd hw 30 rfl) (z := (Int32.ofNat n)) (cap := 6) (by rw [Int32.lt_iff_toInt_lt, toInt_nat (by omega)]; show ¬ ((n : Int) < 0); omega) (by rw [clamp_nat (by omega)]; exact hcap) (by decide) (cells' := 1) (slots' := 6) rfl rfl (by decide) (by decide) ?_
  intro T2 h2 a2 ka2 g2 W2 E2 A2
  have V2 : BArr Z h2 a2 ka2 (List.replicate n 0) := BArr.of_new A2 (k := n) rfl rfl
  have A2b := A.ext E2
  refine Go.astore W2.cx d_jdk_65_method_133_12 (L' := #[.val (.ref b), .val (.int (Int32.ofNat f)), .val (.int (Int32.ofNat (f + n))), .val (.int (Int32.ofNat n)), .val (.ref a2)]) rfl rfl ?_
  refine Go.aload_n W2.cx d_jdk_65_method_133_14 (v := (.ref b)) rfl rfl ?_
  refine Go.iload_n W2.cx d_jdk_65_method_133_15 (v := (Int32.ofNat f)) rfl ?_
  refine Go.aload W2.cx d_jdk_65_method_133_16 (v := (.ref a2)) rfl rfl ?_
  refine Go.iconst W2.cx d_jdk_65_method_133_18 (z := (0 : Int32)) rfl ?_
  refine Go.aload_n W2.cx d_jdk_65_method_133_19 (v := (.ref b)) rfl rfl ?_
  refine Go.alen W2 d_jdk_65_method_133_20 A2b ?_
  refine Go.iload_n W2.cx d_jdk_65_method_133_21 (v := (Int32.ofNat f)) rfl ?_
  refine Go.isub W2.cx d_jdk_65_method_133_22 ?_
  refine Go.top (sub_nat (by omega) (by omega)) ?_
  refine Go.iload_n W2.cx d_jdk_65_method_133_23 (v := (Int32.ofNat n)) rfl ?_
  refine Go.invs1 W2 (Ctr.call (wt := 4) (c_minN2 l Z a0 hw hE W2.old (u := cs.length - f) (n := n) (by omega) (by omega)) W2.ew (wd hw 133 rfl) (wd hw 132 rfl) (by simp) (by decide) (by decide)) d_jdk_65_method_133_24 (wd hw 130 rfl) (wd hw 131 rfl) (wd hw 132 rfl) (wd hw 133 rfl) (by decide) pd_4 rfl rfl (rest := [(.int (0 : Int32)), (.ref a2), (.int (Int32.ofNat f)), (.ref b)]) rfl (Nat.le_of_eq rfl) (cells' := 1) (slots' := 6) rfl rfl (by decide) (by decide) ?_
  rintro T3 h3 _ W3 z3 ⟨rfl, e3⟩
  subst e3
  refine Go.acopyB W3 (sp := f) (nn := n) d_jdk_65_method_133_27 (wd hw 134 rfl) (wd hw 137 rfl) (wd hw 135 rfl) (wd hw 136 rfl) A2b V2 (by simp) (by omega) (by simp) (by omega) (by simp; omega) rfl (by decide) (wt := 0) (Nat.le_of_eq rfl) (by decide) ?_
  intro T4 h4 W4 K4 V4
  refine Go.aload W4.cx d_jdk_65_method_133_30 (v := (.ref a2)) rfl rfl ?_
  exact Go.aret W4 d_jdk_65_method_133_32 rfl rfl rfl (by decide) (by decide) ⟨_, rfl, _, _, rfl, ext_keep E2 K4 (all1 (Nat.le_of_eq g2.symm)), Nat.le_of_eq g2.symm, V4⟩
theorem d_jdk_65_method_132_0 : Dec jdk_65_method_132_code 0 (.iload_n 1) 1 1 := ⟨by decide +kernel, rfl⟩
theorem d_jdk_65_method_132_1 : Dec jdk_65_method_132_code 1 (.ifCond .ne 9) 3 4 := ⟨by decide +kernel, rfl⟩
theorem d_jdk_65_method_132_10 : Dec jdk_65_method_132_code 10 (.aload_n 0) 1 11 := ⟨by decide +kernel, rfl⟩
theorem d_jdk_65_method_132_11 : Dec jdk_65_method_132_code 11 (.iload_n 1) 1 12 := ⟨by decide +kernel, rfl⟩
theorem d_jdk_65_method_132_12 : Dec jdk_65_method_132_code 12 (.iload_n 2) 1 13 := ⟨by decide +kernel, rfl⟩
theorem d_jdk_65_method_132_13 : Dec jdk_65_method_132_code 13 (.invokestatic 339) 3 16 := ⟨by decide +kernel, rfl⟩
theorem pd_5 : parseMethodDescriptor "([BII)[B" = some ⟨[(.array .byte), .int, .int], some (.array .byte)⟩ := by decide +kernel
theorem d_jdk_65_method_132_16 : Dec jdk_65_method_132_code 16 (.areturn) 1 17 := ⟨by decide +kernel, rfl⟩
theorem d_jdk_65_method_132_4 : Dec jdk_65_method_132_code 4 (.iload_n 2) 1 5 := ⟨by decide +kernel, rfl⟩
theorem d_jdk_65_method_132_5 : Dec jdk_65_method_132_code 5 (.aload_n 0) 1 6 := ⟨by decide +kernel, rfl⟩
theorem d_jdk_65_method_132_6 : Dec jdk_65_method_132_code 6 (.arraylength) 1 7 := ⟨by decide +kernel, rfl⟩
theorem d_jdk_65_method_132_7 : Dec jdk_65_method_132_code 7 (.if_icmp .eq 10) 3 10 := ⟨by decide +kernel, rfl⟩
set_option maxRecDepth 65536 in
set_option maxHeartbeats 40000000 in
theorem c_cor2 (l : Launch) (Z : State) (a0 : Array Value) (hw : ∀ d ∈ tables_1, d.before a0 Z = true) (hE : EW Z a0 EL0) {n0 : Nat} {h0 : Heap} (hO : Old Z n0 h0) {b : Addr} {kb : ClassId} {cs : List Int32} (A : BArr Z h0 b kb cs) (hcl : cs.length ≤ 4000) {f n : Nat} (hn : f + n ≤ cs.length) (hlt : n < cs.length) (hcap : n ≤ 6) :
    Ctr NW EL0 n0 Z [] l (⟨"java/util/Arrays", "copyOfRange", "([BII)[B"⟩ : MethodName) jdk_65_method_132_code 3 (some (.array .byte)) ({ frames := 2, cells := 1, slots := 6, locals := 34 } : Room) #[.ref b, .int (Int32.ofNat f), .int (Int32.ofNat (f + n))] h0 (RV fun w h => ∃ r kr, w = .ref r ∧ Ext h0 h ∧ h0.size ≤ r ∧ BArr Z h r kr ((cs.drop f).take n)) := by
  refine Ctr.body (plainFor_of_name pn_3) hE hO (fun x q => nomatch q) (L0 := #[.val (.ref b), .val (.int (Int32.ofNat f)), .val (.int (Int32.ofNat (f + n)))]) (fun m => by first | (simp [entryFrame, mkF, argsToLocals, Value.category, maxLocals]; done) | rfl) ?_
  intro p e s m below meth c T0 W0
  refine Go.iload_n W0.cx d_jdk_65_method_132_0 (v := (Int32.ofNat f)) rfl ?_
  refine Go.ifne W0.cx d_jdk_65_method_132_1 (by decide) (q := 10) rfl (fun c1 => ?_) (fun c1 => ?_)
  · refine Go.aload_n W0.cx d_jdk_65_method_132_10 (v := (.ref b)) rfl rfl ?_
    refine Go.iload_n W0.cx d_jdk_65_method_132_11 (v := (Int32.ofNat f)) rfl ?_
    refine Go.iload_n W0.cx d_jdk_65_method_132_12 (v := (Int32.ofNat (f + n))) rfl ?_
    refine Go.invs1 W0 (Ctr.call (wt := 0) (c_corb2 l Z a0 hw hE W0.old A hcl hn hlt hcap) W0.ew (wd hw 126 rfl) (wd hw 122 rfl) (by simp) (by decide) (by decide)) d_jdk_65_method_132_13 (wd hw 124 rfl) (wd hw 125 rfl) (wd hw 122 rfl) (wd hw 126 rfl) (by decide) pd_5 rfl rfl (rest := []) rfl (Nat.le_of_eq rfl) (cells' := 1) (slots' := 6) rfl rfl (by decide) (by decide) ?_
    rintro T1 h1 _ W1 z1 ⟨r1, kr1, rfl, E1, l1, V1⟩
    exact Go.aret W1 d_jdk_65_method_132_16 rfl rfl rfl (by decide) (by decide) ⟨_, rfl, _, _, rfl, E1, l1, V1⟩
  · have hf0 : f = 0 := (eq0_nat (by omega)).mp c1
    refine Go.iload_n W0.cx d_jdk_65_method_132_4 (v := (Int32.ofNat (f + n))) rfl ?_
    refine Go.aload_n W0.cx d_jdk_65_method_132_5 (v := (.ref b)) rfl rfl ?_
    refine Go.alen W0 d_jdk_65_method_132_6 A ?_
    refine Go.iceq W0.cx d_jdk_65_method_132_7 (by decide) (q := 17) rfl (fun hh => (by first | exact absurd (show ¬ Int32.ofNat (f + n) = Int32.ofNat cs.length by rw [eq_nat (by omega) (by omega)]; omega) hh | exact absurd hh (show ¬ Int32.ofNat (f + n) = Int32.ofNat cs.length by rw [eq_nat (by omega) (by omega)]; omega))) (fun _ => ?_)
    refine Go.aload_n W0.cx d_jdk_65_method_132_10 (v := (.ref b)) rfl rfl ?_
    refine Go.iload_n W0.cx d_jdk_65_method_132_11 (v := (Int32.ofNat f)) rfl ?_
    refine Go.iload_n W0.cx d_jdk_65_method_132_12 (v := (Int32.ofNat (f + n))) rfl ?_
    refine Go.invs1 W0 (Ctr.call (wt := 0) (c_corb2 l Z a0 hw hE W0.old A hcl hn hlt hcap) W0.ew (wd hw 126 rfl) (wd hw 122 rfl) (by simp) (by decide) (by decide)) d_jdk_65_method_132_13 (wd hw 124 rfl) (wd hw 125 rfl) (wd hw 122 rfl) (wd hw 126 rfl) (by decide) pd_5 rfl rfl (rest := []) rfl (Nat.le_of_eq rfl) (cells' := 1) (slots' := 6) rfl rfl (by decide) (by decide) ?_
    rintro T2 h2 _ W2 z2 ⟨r2, kr2, rfl, E2, l2, V2⟩
    exact Go.aret W2 d_jdk_65_method_132_16 rfl rfl rfl (by decide) (by decide) ⟨_, rfl, _, _, rfl, E2, l2, V2⟩
theorem wS {a0 : Array Value} {Z : State} (hw : ∀ d ∈ tables_1, d.before a0 Z = true) : ∀ a ∈ Bundle.stringAtoms, a.before a0 Z = true := fun d hd => hw d ((by decide +kernel : ∀ d ∈ Bundle.stringAtoms, d ∈ tables_1) d hd)
theorem d_jdk_42_method_149_0 : Dec jdk_42_method_149_code 0 (.aload_n 0) 1 1 := ⟨by decide +kernel, rfl⟩
theorem d_jdk_42_method_149_1 : Dec jdk_42_method_149_code 1 (.invokespecial 1) 3 4 := ⟨by decide +kernel, rfl⟩
theorem d_jdk_42_method_149_4 : Dec jdk_42_method_149_code 4 (.iload_n 3) 1 5 := ⟨by decide +kernel, rfl⟩
theorem d_jdk_42_method_149_5 : Dec jdk_42_method_149_code 5 (.ifCond .ne 22) 3 8 := ⟨by decide +kernel, rfl⟩
theorem d_jdk_42_method_149_8 : Dec jdk_42_method_149_code 8 (.aload_n 0) 1 9 := ⟨by decide +kernel, rfl⟩
theorem d_jdk_42_method_149_9 : Dec jdk_42_method_149_code 9 (.ldc 7) 2 11 := ⟨by decide +kernel, rfl⟩
theorem d_jdk_42_method_149_11 : Dec jdk_42_method_149_code 11 (.getfield 9) 3 14 := ⟨by decide +kernel, rfl⟩
theorem d_jdk_42_method_149_14 : Dec jdk_42_method_149_code 14 (.putfield 9) 3 17 := ⟨by decide +kernel, rfl⟩
theorem d_jdk_42_method_149_17 : Dec jdk_42_method_149_code 17 (.aload_n 0) 1 18 := ⟨by decide +kernel, rfl⟩
theorem d_jdk_42_method_149_18 : Dec jdk_42_method_149_code 18 (.ldc 7) 2 20 := ⟨by decide +kernel, rfl⟩
theorem d_jdk_42_method_149_20 : Dec jdk_42_method_149_code 20 (.getfield 15) 3 23 := ⟨by decide +kernel, rfl⟩
theorem d_jdk_42_method_149_23 : Dec jdk_42_method_149_code 23 (.putfield 15) 3 26 := ⟨by decide +kernel, rfl⟩
theorem d_jdk_42_method_149_26 : Dec jdk_42_method_149_code 26 (.return_) 1 27 := ⟨by decide +kernel, rfl⟩
set_option maxRecDepth 65536 in
set_option maxHeartbeats 40000000 in
theorem c_s149 (l : Launch) (Z : State) (a0 : Array Value) (hw : ∀ d ∈ tables_1, d.before a0 Z = true) (hE : EW Z a0 EL0) {n0 : Nat} {h0 : Heap} (hO : Old Z n0 h0) {x b : Addr} (hx : n0 ≤ x) (N_x : NewS Z h0 x) :
    Ctr NW EL0 n0 Z [x] l (⟨"java/lang/String", "<init>", "([CIILjava/lang/Void;)V"⟩ : MethodName) jdk_42_method_149_code 6 none ({ frames := 1, cells := 4, slots := 8, locals := 17 } : Room) #[.ref x, .ref b, .int 0, .int 0, .null] h0 (RN fun h => Keep h0 h [x] ∧ Str Z h x []) := by
  refine Ctr.body (plainFor_of_name pn_0) hE hO (fun y q => by cases List.mem_singleton.mp q; exact ⟨hx, N_x.1.lt⟩) (L0 := #[.val (.ref x), .val (.ref b), .val (.int (0 : Int32)), .val (.int (0 : Int32)), .val .null, .unset]) (fun m => by first | (simp [entryFrame, mkF, argsToLocals, Value.category, maxLocals]; done) | rfl) ?_
  intro p e s m below meth c T0 W0
  refine Go.aload_n W0.cx d_jdk_42_method_149_0 (v := (.ref x)) rfl rfl ?_
  refine Go.initObj W0 d_jdk_42_method_149_1 (wd hw 22 rfl) (wd hw 23 rfl) (wd hw 24 rfl) rfl (by decide) (wt := 0) rfl (by decide) ?_
  intro T1 W1
  refine Go.iload_n W1.cx d_jdk_42_method_149_4 (v := (0 : Int32)) rfl ?_
  refine Go.ifne W1.cx d_jdk_42_method_149_5 (by decide) (q := 27) rfl (fun hh => (by first | exact absurd (rfl : (0 : Int32) = 0) hh | exact absurd hh (rfl : (0 : Int32) = 0))) (fun _ => ?_)
  refine Go.aload_n W1.cx d_jdk_42_method_149_8 (v := (.ref x)) rfl rfl ?_
  refine Go.ldcS W1 (fun q => q) d_jdk_42_method_149_9 (wd hw 41 rfl) (wS hw) (by decide) (cs := []) ⟨by decide, by decide +kernel⟩ (by decide) (by decide) (nn := 0) (by decide) (by decide) (cells' := 2) (slots' := 4) rfl rfl (by decide) (by decide) ?_
  intro T2 h2 l2 b2 kb2 W2 E2 A2 C2 V2 B2 X2 S2
  have N2 := N_x.ext E2
  refine Go.getf W2 d_jdk_42_method_149_11 (wd hw 39 rfl) Via.refl V2 ?_
  intro T3 W3
  refine Go.putf W3 d_jdk_42_method_149_14 (wd hw 39 rfl) Via.refl N2.2.1 N2.1 (Or.inr ⟨(wd hw 40 rfl), rfl, rfl⟩) (wd hw 13 rfl) (t := (.array .byte)) (by decide) (v' := (.ref b2)) rfl rfl (by simp) ?_
  intro T4 h4 W4 R4
  have B4 := B2.other R4 (Ne.symm (X2 x (by simp)).2)
  have F4 := N2.2.1.same R4
  have M4 := N2.1.wr R4
  have C4 := N2.2.2.other R4 (Or.inr (slot_ne (Or.inr (wd hw 38 rfl)) (Or.inr (wd hw 40 rfl)) (by decide) (t := .byte) (t' := .array .byte) (by decide) (by decide)))
  have Q4 : Keep h0 h4 [x] := ((Keep.refl h0 [x]).ext E2).wr R4 (Or.inl (by simp))
  refine Go.aload_n W4.cx d_jdk_42_method_149_17 (v := (.ref x)) rfl rfl ?_
  refine Go.ldcS W4 (fun q => q) d_jdk_42_method_149_18 (wd hw 41 rfl) (wS hw) (by decide) (cs := []) ⟨by decide, by decide +kernel⟩ (by decide) (by decide) (nn := 0) (by decide) (by decide) (cells' := 4) (slots' := 8) rfl rfl (by decide) (by decide) ?_
  intro T5 h5 l5 b5 kb5 W5 E5 A5 C5 V5 B5 X5 S5
  refine Go.getf W5 d_jdk_42_method_149_20 (wd hw 37 rfl) Via.refl C5 ?_
  intro T6 W6
  refine Go.putf W6 d_jdk_42_method_149_23 (wd hw 37 rfl) Via.refl (C4.ext E5) (M4.ext E5) (Or.inr ⟨(wd hw 38 rfl), rfl, rfl⟩) (wd hw 13 rfl) (t := .byte) (by decide) (v' := (.int 0)) rfl rfl (by simp) ?_
  intro T7 h7 W7 R7
  have F7 := (F4.ext E5).other R7 (Or.inr (slot_ne (Or.inr (wd hw 40 rfl)) (Or.inr (wd hw 38 rfl)) (by decide) (t := .array .byte) (t' := .byte) (by decide) (by decide)))
  have B7 := (B4.ext E5).other R7 (Ne.symm (X2 x (by simp)).2)
  exact Go.vret W7 d_jdk_42_method_149_26 (by decide) (by decide) ⟨rfl, (Q4.ext E5).wr R7 (Or.inl (by simp)), (M4.ext E5).wr R7, (C4.ext E5).same R7, ⟨b2, kb2, F7, B7⟩, all_nil, by decide⟩
theorem d_jdk_42_method_3_0 : Dec jdk_42_method_3_code 0 (.aload_n 0) 1 1 := ⟨by decide +kernel, rfl⟩
theorem d_jdk_42_method_3_1 : Dec jdk_42_method_3_code 1 (.aload_n 1) 1 2 := ⟨by decide +kernel, rfl⟩
theorem d_jdk_42_method_3_2 : Dec jdk_42_method_3_code 2 (.iconst 0) 1 3 := ⟨by decide +kernel, rfl⟩
theorem d_jdk_42_method_3_3 : Dec jdk_42_method_3_code 3 (.aload_n 1) 1 4 := ⟨by decide +kernel, rfl⟩
theorem d_jdk_42_method_3_4 : Dec jdk_42_method_3_code 4 (.arraylength) 1 5 := ⟨by decide +kernel, rfl⟩
theorem d_jdk_42_method_3_5 : Dec jdk_42_method_3_code 5 (.aconst_null) 1 6 := ⟨by decide +kernel, rfl⟩
theorem d_jdk_42_method_3_6 : Dec jdk_42_method_3_code 6 (.invokespecial 27) 3 9 := ⟨by decide +kernel, rfl⟩
theorem pd_6 : parseMethodDescriptor "([CIILjava/lang/Void;)V" = some ⟨[(.array .char), .int, .int, (.object "java/lang/Void")], none⟩ := by decide +kernel
theorem d_jdk_42_method_3_9 : Dec jdk_42_method_3_code 9 (.return_) 1 10 := ⟨by decide +kernel, rfl⟩
set_option maxRecDepth 65536 in
set_option maxHeartbeats 40000000 in
theorem c_s3 (l : Launch) (Z : State) (a0 : Array Value) (hw : ∀ d ∈ tables_1, d.before a0 Z = true) (hE : EW Z a0 EL0) {n0 : Nat} {h0 : Heap} (hO : Old Z n0 h0) {x b : Addr} {ka : ClassId} (hx : n0 ≤ x) (N_x : NewS Z h0 x) (A : CArr Z h0 b ka []) :
    Ctr NW EL0 n0 Z [x] l (⟨"java/lang/String", "<init>", "([C)V"⟩ : MethodName) jdk_42_method_3_code 2 none ({ frames := 2, cells := 4, slots := 8, locals := 34 } : Room) #[.ref x, .ref b] h0 (RN fun h => Keep h0 h [x] ∧ Str Z h x []) := by
  refine Ctr.body (plainFor_of_name pn_0) hE hO (fun y q => by cases List.mem_singleton.mp q; exact ⟨hx, N_x.1.lt⟩) (L0 := #[.val (.ref x), .val (.ref b)]) (fun m => by first | (simp [entryFrame, mkF, argsToLocals, Value.category, maxLocals]; done) | rfl) ?_
  intro p e s m below meth c T0 W0
  refine Go.aload_n W0.cx d_jdk_42_method_3_0 (v := (.ref x)) rfl rfl ?_
  refine Go.aload_n W0.cx d_jdk_42_method_3_1 (v := (.ref b)) rfl rfl ?_
  refine Go.iconst W0.cx d_jdk_42_method_3_2 (z := (0 : Int32)) rfl ?_
  refine Go.aload_n W0.cx d_jdk_42_method_3_3 (v := (.ref b)) rfl rfl ?_
  refine Go.alen W0 d_jdk_42_method_3_4 A ?_
  refine Go.aconst_null W0.cx d_jdk_42_method_3_5 ?_
  refine Go.invi W0 (Ctr.call (wt := 0) (c_s149 l Z a0 hw hE hO hx N_x) W0.ew (wd hw 21 rfl) (wd hw 14 rfl) (by simp) (by decide) (by decide)) d_jdk_42_method_3_6 rfl (wd hw 18 rfl) (wd hw 19 rfl) (wd hw 21 rfl) (by decide) pd_6 rfl rfl (rest := []) rfl (Nat.le_of_eq rfl) (cells' := 4) (slots' := 8) rfl rfl (by decide) (by decide) ?_
  rintro T1 h1 W1 z1 ⟨K1, S1⟩
  exact Go.vret W1 d_jdk_42_method_3_9 (by decide) (by decide) ⟨rfl, K1, S1⟩
theorem d_jdk_42_method_151_0 : Dec jdk_42_method_151_code 0 (.aload_n 0) 1 1 := ⟨by decide +kernel, rfl⟩
theorem d_jdk_42_method_151_1 : Dec jdk_42_method_151_code 1 (.invokespecial 1) 3 4 := ⟨by decide +kernel, rfl⟩
theorem d_jdk_42_method_151_4 : Dec jdk_42_method_151_code 4 (.aload_n 0) 1 5 := ⟨by decide +kernel, rfl⟩
theorem d_jdk_42_method_151_5 : Dec jdk_42_method_151_code 5 (.aload_n 1) 1 6 := ⟨by decide +kernel, rfl⟩
theorem d_jdk_42_method_151_6 : Dec jdk_42_method_151_code 6 (.putfield 9) 3 9 := ⟨by decide +kernel, rfl⟩
theorem d_jdk_42_method_151_9 : Dec jdk_42_method_151_code 9 (.aload_n 0) 1 10 := ⟨by decide +kernel, rfl⟩
theorem d_jdk_42_method_151_10 : Dec jdk_42_method_151_code 10 (.iload_n 2) 1 11 := ⟨by decide +kernel, rfl⟩
theorem d_jdk_42_method_151_11 : Dec jdk_42_method_151_code 11 (.putfield 15) 3 14 := ⟨by decide +kernel, rfl⟩
theorem d_jdk_42_method_151_14 : Dec jdk_42_method_151_code 14 (.return_) 1 15 := ⟨by decide +kernel, rfl⟩
set_option maxRecDepth 65536 in
set_option maxHeartbeats 40000000 in
theorem c_s151 (l : Launch) (Z : State) (a0 : Array Value) (hw : ∀ d ∈ tables_1, d.before a0 Z = true) (hE : EW Z a0 EL0) {n0 : Nat} {h0 : Heap} (hO : Old Z n0 h0) {b : Addr} {kb : ClassId} {cs : List Int32} (A : BArr Z h0 b kb cs) {y : Addr} (hy : n0 ≤ y) (N_x : NewS Z h0 y) (hb : b ≠ y) (hpc : ∀ c ∈ cs, ¬ c < 0 ∧ ¬ (255 : Int32) < c) (hcl : cs.length ≤ 4000) :
    Ctr NW EL0 n0 Z [y] l (⟨"java/lang/String", "<init>", "([BB)V"⟩ : MethodName) jdk_42_method_151_code 3 none ({ frames := 1, cells := 0, slots := 0, locals := 12 } : Room) #[.ref y, .ref b, .int 0] h0 (RN fun h => Keep h0 h [y] ∧ Str Z h y cs) := by
  refine Ctr.body (plainFor_of_name pn_0) hE hO (fun z q => by cases List.mem_singleton.mp q; exact ⟨hy, N_x.1.lt⟩) (L0 := #[.val (.ref y), .val (.ref b), .val (.int (0 : Int32))]) (fun m => by first | (simp [entryFrame, mkF, argsToLocals, Value.category, maxLocals]; done) | rfl) ?_
  intro p e s m below meth c T0 W0
  refine Go.aload_n W0.cx d_jdk_42_method_151_0 (v := (.ref y)) rfl rfl ?_
  refine Go.initObj W0 d_jdk_42_method_151_1 (wd hw 22 rfl) (wd hw 23 rfl) (wd hw 24 rfl) rfl (by decide) (wt := 0) rfl (by decide) ?_
  intro T1 W1
  refine Go.aload_n W1.cx d_jdk_42_method_151_4 (v := (.ref y)) rfl rfl ?_
  refine Go.aload_n W1.cx d_jdk_42_method_151_5 (v := (.ref b)) rfl rfl ?_
  refine Go.putf W1 d_jdk_42_method_151_6 (wd hw 39 rfl) Via.refl N_x.2.1 N_x.1 (Or.inr ⟨(wd hw 40 rfl), rfl, rfl⟩) (wd hw 13 rfl) (t := (.array .byte)) (by decide) (v' := (.ref b)) rfl rfl (by simp) ?_
  intro T2 h2 W2 R2
  have B2 := Arv.other A R2 hb
  have F2 := N_x.2.1.same R2
  have M2 := N_x.1.wr R2
  have C2 := N_x.2.2.other R2 (Or.inr (slot_ne (Or.inr (wd hw 38 rfl)) (Or.inr (wd hw 40 rfl)) (by decide) (t := .byte) (t' := .array .byte) (by decide) (by decide)))
  have Q2 : Keep h0 h2 [y] := (Keep.refl h0 [y]).wr R2 (Or.inl (by simp))
  refine Go.aload_n W2.cx d_jdk_42_method_151_9 (v := (.ref y)) rfl rfl ?_
  refine Go.iload_n W2.cx d_jdk_42_method_151_10 (v := (0 : Int32)) rfl ?_
  refine Go.putf W2 d_jdk_42_method_151_11 (wd hw 37 rfl) Via.refl C2 M2 (Or.inr ⟨(wd hw 38 rfl), rfl, rfl⟩) (wd hw 13 rfl) (t := .byte) (by decide) (v' := (.int 0)) rfl rfl (by simp) ?_
  intro T3 h3 W3 R3
  have F3 := F2.other R3 (Or.inr (slot_ne (Or.inr (wd hw 40 rfl)) (Or.inr (wd hw 38 rfl)) (by decide) (t := .array .byte) (t' := .byte) (by decide) (by decide)))
  have B3 := Arv.other B2 R3 hb
  exact Go.vret W3 d_jdk_42_method_151_14 (by decide) (by decide) ⟨rfl, Q2.wr R3 (Or.inl (by simp)), M2.wr R3, C2.same R3, ⟨b, kb, F3, B3⟩, hpc, hcl⟩
theorem ne_ge2 {x b : Addr} {h : Heap} (l : x < h.size) (g : h.size ≤ b) : b ≠ x := fun e => by subst e; exact absurd l (Nat.not_lt.mpr g)
theorem dt_ch {cs : List Int32} (h : ∀ c ∈ cs, ¬ c < 0 ∧ ¬ (255 : Int32) < c) (f n : Nat) : ∀ c ∈ (cs.drop f).take n, ¬ c < 0 ∧ ¬ (255 : Int32) < c := fun c q => h c (List.mem_of_mem_drop (List.mem_of_mem_take q))
theorem d_jdk_43_method_47_0 : Dec jdk_43_method_47_code 0 (.iload_n 2) 1 1 := ⟨by decide +kernel, rfl⟩
theorem d_jdk_43_method_47_1 : Dec jdk_43_method_47_code 1 (.ifCond .ne 6) 3 4 := ⟨by decide +kernel, rfl⟩
theorem d_jdk_43_method_47_7 : Dec jdk_43_method_47_code 7 (.new 1) 3 10 := ⟨by decide +kernel, rfl⟩
theorem d_jdk_43_method_47_10 : Dec jdk_43_method_47_code 10 (.dup) 1 11 := ⟨by decide +kernel, rfl⟩
theorem d_jdk_43_method_47_11 : Dec jdk_43_method_47_code 11 (.aload_n 0) 1 12 := ⟨by decide +kernel, rfl⟩
theorem d_jdk_43_method_47_12 : Dec jdk_43_method_47_code 12 (.iload_n 1) 1 13 := ⟨by decide +kernel, rfl⟩
theorem d_jdk_43_method_47_13 : Dec jdk_43_method_47_code 13 (.iload_n 1) 1 14 := ⟨by decide +kernel, rfl⟩
theorem d_jdk_43_method_47_14 : Dec jdk_43_method_47_code 14 (.iload_n 2) 1 15 := ⟨by decide +kernel, rfl⟩
theorem d_jdk_43_method_47_15 : Dec jdk_43_method_47_code 15 (.iadd) 1 16 := ⟨by decide +kernel, rfl⟩
theorem d_jdk_43_method_47_16 : Dec jdk_43_method_47_code 16 (.invokestatic 232) 3 19 := ⟨by decide +kernel, rfl⟩
theorem d_jdk_43_method_47_19 : Dec jdk_43_method_47_code 19 (.iconst 0) 1 20 := ⟨by decide +kernel, rfl⟩
theorem d_jdk_43_method_47_20 : Dec jdk_43_method_47_code 20 (.invokespecial 112) 3 23 := ⟨by decide +kernel, rfl⟩
theorem pd_7 : parseMethodDescriptor "([BB)V" = some ⟨[(.array .byte), .byte], none⟩ := by decide +kernel
theorem d_jdk_43_method_47_23 : Dec jdk_43_method_47_code 23 (.areturn) 1 24 := ⟨by decide +kernel, rfl⟩
theorem d_jdk_43_method_47_4 : Dec jdk_43_method_47_code 4 (.ldc 151) 2 6 := ⟨by decide +kernel, rfl⟩
theorem d_jdk_43_method_47_6 : Dec jdk_43_method_47_code 6 (.areturn) 1 7 := ⟨by decide +kernel, rfl⟩
set_option maxRecDepth 65536 in
set_option maxHeartbeats 40000000 in
theorem c_nstr (l : Launch) (Z : State) (a0 : Array Value) (hw : ∀ d ∈ tables_1, d.before a0 Z = true) (hE : EW Z a0 EL0) {n0 : Nat} {h0 : Heap} (hO : Old Z n0 h0) {b : Addr} {kb : ClassId} {cs : List Int32} (A : BArr Z h0 b kb cs) (hpc : ∀ c ∈ cs, ¬ c < 0 ∧ ¬ (255 : Int32) < c) (hcl : cs.length ≤ 4000) {f n : Nat} (hn : f + n ≤ cs.length) (hlt : n < cs.length) (hcap : n ≤ 6) :
    Ctr NW EL0 n0 Z [] l (⟨"java/lang/StringLatin1", "newString", "([BII)Ljava/lang/String;"⟩ : MethodName) jdk_43_method_47_code 3 (some (.object "java/lang/String")) ({ frames := 3, cells := 2, slots := 10, locals := 50 } : Room) #[.ref b, .int (Int32.ofNat f), .int (Int32.ofNat n)] h0 (RV fun w h => ∃ r, w = .ref r ∧ Ext h0 h ∧ Str Z h r ((cs.drop f).take n)) := by
  refine Ctr.body (plainFor_of_name pn_1) hE hO (fun x q => nomatch q) (L0 := #[.val (.ref b), .val (.int (Int32.ofNat f)), .val (.int (Int32.ofNat n))]) (fun m => by first | (simp [entryFrame, mkF, argsToLocals, Value.category, maxLocals]; done) | rfl) ?_
  intro p e s m below meth c T0 W0
  refine Go.iload_n W0.cx d_jdk_43_method_47_0 (v := (Int32.ofNat n)) rfl ?_
  refine Go.ifne W0.cx d_jdk_43_method_47_1 (by decide) (q := 7) rfl (fun c1 => ?_) (fun c1 => ?_)
  · refine Go.new W0 d_jdk_43_method_47_7 (wd hw 119 rfl) (wd hw 13 rfl) (wd hw 14 rfl) (cells' := 1) (slots' := 4) rfl rfl (by decide) (by decide) ?_
    intro T1 h1 a1 g1 W1 E1 A1 D1
    have N1 : NewS Z h1 a1 := ⟨A1, D1 (Or.inr (wd hw 40 rfl)) (t := .array .byte) (by decide), D1 (Or.inr (wd hw 38 rfl)) (t := .byte) (by decide)⟩
    refine Go.dup W1.cx d_jdk_43_method_47_10 rfl ?_
    refine Go.aload_n W1.cx d_jdk_43_method_47_11 (v := (.ref b)) rfl rfl ?_
    refine Go.iload_n W1.cx d_jdk_43_method_47_12 (v := (Int32.ofNat f)) rfl ?_
    refine Go.iload_n W1.cx d_jdk_43_method_47_13 (v := (Int32.ofNat f)) rfl ?_
    refine Go.iload_n W1.cx d_jdk_43_method_47_14 (v := (Int32.ofNat n)) rfl ?_
    refine Go.iadd W1.cx d_jdk_43_method_47_15 ?_
    refine Go.top (add_nat _ _) ?_
    refine Go.invs1 W1 (Ctr.call (wt := 2) (c_cor2 l Z a0 hw hE W1.old (A.ext E1) hcl hn hlt hcap) W1.ew (wd hw 123 rfl) (wd hw 122 rfl) (by simp) (by decide) (by decide)) d_jdk_43_method_47_16 (wd hw 120 rfl) (wd hw 121 rfl) (wd hw 122 rfl) (wd hw 123 rfl) (by decide) pd_5 rfl rfl (rest := [(.ref a1), (.ref a1)]) rfl (Nat.le_of_eq rfl) (cells' := 2) (slots' := 10) rfl rfl (by decide) (by decide) ?_
    rintro T2 h2 _ W2 z2 ⟨b2, kb2, rfl, E2, lb2, V2⟩
    refine Go.iconst W2.cx d_jdk_43_method_47_19 (z := (0 : Int32)) rfl ?_
    refine Go.invi W2 (Ctr.call (wt := 1) (c_s151 l Z a0 hw hE W2.old V2 (W2.mine (by simp)).1 (N1.ext E2) (ne_ge2 N1.1.lt lb2) (dt_ch hpc f n) (by rw [List.length_take, List.length_drop]; omega)) W2.ew (wd hw 140 rfl) (wd hw 14 rfl) (by simp) (by decide) (by decide)) d_jdk_43_method_47_20 rfl (wd hw 138 rfl) (wd hw 139 rfl) (wd hw 140 rfl) (by decide) pd_7 rfl rfl (rest := [(.ref a1)]) rfl (Nat.le_of_eq rfl) (cells' := 2) (slots' := 10) rfl rfl (by decide) (by decide) ?_
    rintro T3 h3 W3 z3 ⟨K3, S3⟩
    exact Go.aret W3 d_jdk_43_method_47_23 rfl rfl rfl (by decide) (by decide) ⟨_, rfl, _, rfl, ext_keep (ext_trans E1 E2) K3 (all1 (Nat.le_of_eq g1.symm)), S3⟩
  · have hn0 : n = 0 := (eq0_nat (by omega)).mp c1
    refine Go.ldcS W0 (fun q => q) d_jdk_43_method_47_4 (wd hw 212 rfl) (wS hw) (by decide) (cs := []) ⟨by decide, by decide +kernel⟩ (by decide) (by decide) (nn := 0) (by decide) (by decide) (cells' := 2) (slots' := 4) rfl rfl (by decide) (by decide) ?_
    intro T4 h4 l4 b4 kb4 W4 E4 A4 C4 V4 B4 X4 S4
    exact Go.aret W4 d_jdk_43_method_47_6 rfl rfl rfl (by decide) (by decide) ⟨_, rfl, _, rfl, E4, by rw [hn0, List.take_zero]; exact S4⟩
theorem pn_4 : plainName "jdk/internal/util/Preconditions" = true := by first | (simp [plainName, overriddenIn]; done) | decide +kernel
theorem d_jdk_41_method_12_0 : Dec jdk_41_method_12_code 0 (.iload_n 0) 1 1 := ⟨by decide +kernel, rfl⟩
theorem d_jdk_41_method_12_1 : Dec jdk_41_method_12_code 1 (.ifCond .lt 13) 3 4 := ⟨by decide +kernel, rfl⟩
theorem d_jdk_41_method_12_4 : Dec jdk_41_method_12_code 4 (.iload_n 0) 1 5 := ⟨by decide +kernel, rfl⟩
theorem d_jdk_41_method_12_5 : Dec jdk_41_method_12_code 5 (.iload_n 1) 1 6 := ⟨by decide +kernel, rfl⟩
theorem d_jdk_41_method_12_6 : Dec jdk_41_method_12_code 6 (.if_icmp .gt 8) 3 9 := ⟨by decide +kernel, rfl⟩
theorem d_jdk_41_method_12_9 : Dec jdk_41_method_12_code 9 (.iload_n 1) 1 10 := ⟨by decide +kernel, rfl⟩
theorem d_jdk_41_method_12_10 : Dec jdk_41_method_12_code 10 (.iload_n 2) 1 11 := ⟨by decide +kernel, rfl⟩
theorem d_jdk_41_method_12_11 : Dec jdk_41_method_12_code 11 (.if_icmp .le 11) 3 14 := ⟨by decide +kernel, rfl⟩
theorem d_jdk_41_method_12_22 : Dec jdk_41_method_12_code 22 (.iload_n 0) 1 23 := ⟨by decide +kernel, rfl⟩
theorem d_jdk_41_method_12_23 : Dec jdk_41_method_12_code 23 (.ireturn) 1 24 := ⟨by decide +kernel, rfl⟩
set_option maxRecDepth 65536 in
set_option maxHeartbeats 40000000 in
theorem c_cft (l : Launch) (Z : State) (a0 : Array Value) (hw : ∀ d ∈ tables_1, d.before a0 Z = true) (hE : EW Z a0 EL0) {n0 : Nat} {h0 : Heap} (hO : Old Z n0 h0) {f e1 n : Nat} (h1 : f ≤ e1) (h2 : e1 ≤ n) (hn : n ≤ 4000) {fm : Value} (hfm : fm = .null ∨ ∃ r, fm = .ref r) :
    Ctr NW EL0 n0 Z [] l (⟨"jdk/internal/util/Preconditions", "checkFromToIndex", "(IIILjava/util/function/BiFunction;)I"⟩ : MethodName) jdk_41_method_12_code 4 (some .int) ({ frames := 0, cells := 0, slots := 0, locals := 0 } : Room) #[.int (Int32.ofNat f), .int (Int32.ofNat e1), .int (Int32.ofNat n), fm] h0 (RV fun w h => w = .int (Int32.ofNat f) ∧ h0 = h) := by
  refine Ctr.body (plainFor_of_name pn_4) hE hO (fun x q => nomatch q) (L0 := #[.val (.int (Int32.ofNat f)), .val (.int (Int32.ofNat e1)), .val (.int (Int32.ofNat n)), .val fm]) (fun m => by rcases hfm with rfl | ⟨_, rfl⟩ <;> rfl) ?_
  intro p e s m below meth c T0 W0
  have hfr := (ref_cat hfm).1
  refine Go.iload_n W0.cx d_jdk_41_method_12_0 (v := (Int32.ofNat f)) rfl ?_
  refine Go.iflt W0.cx d_jdk_41_method_12_1 (by decide) (q := 14) rfl (fun hh => (by first | exact absurd (show ¬ Int32.ofNat f < Int32.ofNat 0 by rw [lt_nat (by omega) (by omega)]; omega) hh | exact absurd hh (show ¬ Int32.ofNat f < Int32.ofNat 0 by rw [lt_nat (by omega) (by omega)]; omega))) (fun _ => ?_)
  refine Go.iload_n W0.cx d_jdk_41_method_12_4 (v := (Int32.ofNat f)) rfl ?_
  refine Go.iload_n W0.cx d_jdk_41_method_12_5 (v := (Int32.ofNat e1)) rfl ?_
  refine Go.icgt W0.cx d_jdk_41_method_12_6 (by decide) (q := 14) rfl (fun hh => (by first | exact absurd (show ¬ Int32.ofNat e1 < Int32.ofNat f by rw [lt_nat (by omega) (by omega)]; omega) hh | exact absurd hh (show ¬ Int32.ofNat e1 < Int32.ofNat f by rw [lt_nat (by omega) (by omega)]; omega))) (fun _ => ?_)
  refine Go.iload_n W0.cx d_jdk_41_method_12_9 (v := (Int32.ofNat e1)) rfl ?_
  refine Go.iload_n W0.cx d_jdk_41_method_12_10 (v := (Int32.ofNat n)) rfl ?_
  refine Go.icle W0.cx d_jdk_41_method_12_11 (by decide) (q := 22) rfl (fun _ => ?_) (fun hh => (by first | exact absurd (show ¬ Int32.ofNat n < Int32.ofNat e1 by rw [lt_nat (by omega) (by omega)]; omega) hh | exact absurd hh (show ¬ Int32.ofNat n < Int32.ofNat e1 by rw [lt_nat (by omega) (by omega)]; omega)))
  refine Go.iload_n W0.cx d_jdk_41_method_12_22 (v := (Int32.ofNat f)) rfl ?_
  exact Go.iret W0 d_jdk_41_method_12_23 (by simp) rfl (by decide) (by decide) ⟨_, rfl, rfl, rfl⟩
theorem d_jdk_42_method_158_0 : Dec jdk_42_method_158_code 0 (.iload_n 0) 1 1 := ⟨by decide +kernel, rfl⟩
theorem d_jdk_42_method_158_1 : Dec jdk_42_method_158_code 1 (.iload_n 1) 1 2 := ⟨by decide +kernel, rfl⟩
theorem d_jdk_42_method_158_2 : Dec jdk_42_method_158_code 2 (.iload_n 2) 1 3 := ⟨by decide +kernel, rfl⟩
theorem d_jdk_42_method_158_3 : Dec jdk_42_method_158_code 3 (.getstatic 1053) 3 6 := ⟨by decide +kernel, rfl⟩
theorem d_jdk_42_method_158_6 : Dec jdk_42_method_158_code 6 (.invokestatic 1062) 3 9 := ⟨by decide +kernel, rfl⟩
theorem pd_8 : parseMethodDescriptor "(IIILjava/util/function/BiFunction;)I" = some ⟨[.int, .int, .int, (.object "java/util/function/BiFunction")], some .int⟩ := by decide +kernel
theorem d_jdk_42_method_158_9 : Dec jdk_42_method_158_code 9 (.pop) 1 10 := ⟨by decide +kernel, rfl⟩
theorem d_jdk_42_method_158_10 : Dec jdk_42_method_158_code 10 (.return_) 1 11 := ⟨by decide +kernel, rfl⟩
set_option maxRecDepth 65536 in
set_option maxHeartbeats 40000000 in
theorem c_cbe (l : Launch) (Z : State) (a0 : Array Value) (hw : ∀ d ∈ tables_1, d.before a0 Z = true) (hE : EW Z a0 EL0) {n0 : Nat} {h0 : Heap} (hO : Old Z n0 h0) (hG : Gl Z) {f e1 n : Nat} (h1 : f ≤ e1) (h2 : e1 ≤ n) (hn : n ≤ 4000) :
    Ctr NW EL0 n0 Z [] l (⟨"java/lang/String", "checkBoundsBeginEnd", "(III)V"⟩ : MethodName) jdk_42_method_158_code 3 none ({ frames := 1, cells := 0, slots := 0, locals := 15 } : Room) #[.int (Int32.ofNat f), .int (Int32.ofNat e1), .int (Int32.ofNat n)] h0 (RN fun h => h0 = h) := by
  refine Ctr.body (plainFor_of_name pn_0) hE hO (fun x q => nomatch q) (L0 := #[.val (.int (Int32.ofNat f)), .val (.int (Int32.ofNat e1)), .val (.int (Int32.ofNat n))]) (fun m => by first | (simp [entryFrame, mkF, argsToLocals, Value.category, maxLocals]; done) | rfl) ?_
  intro p e s m below meth c T0 W0
  obtain ⟨-, fm, O4, rf⟩ := id hG
  have hfm := ref_cases rf
  refine Go.iload_n W0.cx d_jdk_42_method_158_0 (v := (Int32.ofNat f)) rfl ?_
  refine Go.iload_n W0.cx d_jdk_42_method_158_1 (v := (Int32.ofNat e1)) rfl ?_
  refine Go.iload_n W0.cx d_jdk_42_method_158_2 (v := (Int32.ofNat n)) rfl ?_
  refine Go.gets W0 d_jdk_42_method_158_3 (wd hw 99 rfl) Via.refl O4 ?_
  intro T1 W1
  refine Go.invs1 W1 (Ctr.call (wt := 0) (c_cft l Z a0 hw hE W1.old h1 h2 hn hfm) W1.ew (wd hw 115 rfl) (wd hw 100 rfl) (by simp) (by decide) (by decide)) d_jdk_42_method_158_6 (wd hw 113 rfl) (wd hw 114 rfl) (wd hw 100 rfl) (wd hw 115 rfl) (by decide) pd_8 rfl rfl (rest := []) rfl (Nat.le_of_eq rfl) (cells' := 0) (slots' := 0) rfl rfl (by decide) (by decide) ?_
  rintro T2 h2 _ W2 z2 ⟨rfl, e2⟩
  subst e2
  refine Go.pop W2.cx d_jdk_42_method_158_9 rfl ?_
  exact Go.vret W2 d_jdk_42_method_158_10 (by decide) (by decide) ⟨rfl, rfl⟩
theorem d_jdk_42_method_92_0 : Dec jdk_42_method_92_code 0 (.aload_n 0) 1 1 := ⟨by decide +kernel, rfl⟩
theorem d_jdk_42_method_92_1 : Dec jdk_42_method_92_code 1 (.invokevirtual 505) 3 4 := ⟨by decide +kernel, rfl⟩
theorem pd_9 : parseMethodDescriptor "()I" = some ⟨[], some .int⟩ := by decide +kernel
theorem d_jdk_42_method_92_4 : Dec jdk_42_method_92_code 4 (.istore_n 3) 1 5 := ⟨by decide +kernel, rfl⟩
theorem d_jdk_42_method_92_5 : Dec jdk_42_method_92_code 5 (.iload_n 1) 1 6 := ⟨by decide +kernel, rfl⟩
theorem d_jdk_42_method_92_6 : Dec jdk_42_method_92_code 6 (.iload_n 2) 1 7 := ⟨by decide +kernel, rfl⟩
theorem d_jdk_42_method_92_7 : Dec jdk_42_method_92_code 7 (.iload_n 3) 1 8 := ⟨by decide +kernel, rfl⟩
theorem d_jdk_42_method_92_8 : Dec jdk_42_method_92_code 8 (.invokestatic 521) 3 11 := ⟨by decide +kernel, rfl⟩
theorem pd_10 : parseMethodDescriptor "(III)V" = some ⟨[.int, .int, .int], none⟩ := by decide +kernel
theorem d_jdk_42_method_92_11 : Dec jdk_42_method_92_code 11 (.iload_n 1) 1 12 := ⟨by decide +kernel, rfl⟩
theorem d_jdk_42_method_92_12 : Dec jdk_42_method_92_code 12 (.ifCond .ne 10) 3 15 := ⟨by decide +kernel, rfl⟩
theorem d_jdk_42_method_92_22 : Dec jdk_42_method_92_code 22 (.iload_n 2) 1 23 := ⟨by decide +kernel, rfl⟩
theorem d_jdk_42_method_92_23 : Dec jdk_42_method_92_code 23 (.iload_n 1) 1 24 := ⟨by decide +kernel, rfl⟩
theorem d_jdk_42_method_92_24 : Dec jdk_42_method_92_code 24 (.isub) 1 25 := ⟨by decide +kernel, rfl⟩
theorem d_jdk_42_method_92_25 : Dec jdk_42_method_92_code 25 (.istore 4) 2 27 := ⟨by decide +kernel, rfl⟩
theorem d_jdk_42_method_92_27 : Dec jdk_42_method_92_code 27 (.aload_n 0) 1 28 := ⟨by decide +kernel, rfl⟩
theorem d_jdk_42_method_92_28 : Dec jdk_42_method_92_code 28 (.invokevirtual 492) 3 31 := ⟨by decide +kernel, rfl⟩
theorem pd_11 : parseMethodDescriptor "()Z" = some ⟨[], some .boolean⟩ := by decide +kernel
theorem d_jdk_42_method_92_31 : Dec jdk_42_method_92_code 31 (.ifCond .eq 16) 3 34 := ⟨by decide +kernel, rfl⟩
theorem d_jdk_42_method_92_34 : Dec jdk_42_method_92_code 34 (.aload_n 0) 1 35 := ⟨by decide +kernel, rfl⟩
theorem d_jdk_42_method_92_35 : Dec jdk_42_method_92_code 35 (.getfield 9) 3 38 := ⟨by decide +kernel, rfl⟩
theorem d_jdk_42_method_92_38 : Dec jdk_42_method_92_code 38 (.iload_n 1) 1 39 := ⟨by decide +kernel, rfl⟩
theorem d_jdk_42_method_92_39 : Dec jdk_42_method_92_code 39 (.iload 4) 2 41 := ⟨by decide +kernel, rfl⟩
theorem d_jdk_42_method_92_41 : Dec jdk_42_method_92_code 41 (.invokestatic 685) 3 44 := ⟨by decide +kernel, rfl⟩
theorem pd_12 : parseMethodDescriptor "([BII)Ljava/lang/String;" = some ⟨[(.array .byte), .int, .int], some (.object "java/lang/String")⟩ := by decide +kernel
theorem d_jdk_42_method_92_44 : Dec jdk_42_method_92_code 44 (.goto 13) 3 47 := ⟨by decide +kernel, rfl⟩
theorem d_jdk_42_method_92_57 : Dec jdk_42_method_92_code 57 (.areturn) 1 58 := ⟨by decide +kernel, rfl⟩
theorem d_jdk_42_method_92_15 : Dec jdk_42_method_92_code 15 (.iload_n 2) 1 16 := ⟨by decide +kernel, rfl⟩
theorem d_jdk_42_method_92_16 : Dec jdk_42_method_92_code 16 (.iload_n 3) 1 17 := ⟨by decide +kernel, rfl⟩
theorem d_jdk_42_method_92_17 : Dec jdk_42_method_92_code 17 (.if_icmp .ne 5) 3 20 := ⟨by decide +kernel, rfl⟩
set_option maxRecDepth 65536 in
set_option maxHeartbeats 40000000 in
theorem c_sub (l : Launch) (Z : State) (a0 : Array Value) (hw : ∀ d ∈ tables_1, d.before a0 Z = true) (hE : EW Z a0 EL0) {n0 : Nat} {h0 : Heap} (hO : Old Z n0 h0) (hG : Gl Z) {a : Addr} {cs : List Int32} (S : Str Z h0 a cs) {f e1 : Nat} (h1 : f ≤ e1) (h2 : e1 ≤ cs.length) (hlt : e1 - f < cs.length) (hcap : e1 - f ≤ 6) :
    Ctr NW EL0 n0 Z [] l (⟨"java/lang/String", "substring", "(II)Ljava/lang/String;"⟩ : MethodName) jdk_42_method_92_code 5 (some (.object "java/lang/String")) ({ frames := 4, cells := 2, slots := 10, locals := 64 } : Room) #[.ref a, .int (Int32.ofNat f), .int (Int32.ofNat e1)] h0 (RV fun w h => ∃ r, w = .ref r ∧ Ext h0 h ∧ Str Z h r ((cs.drop f).take (e1 - f))) := by
  refine Ctr.body (plainFor_of_name pn_0) hE hO (fun x q => nomatch q) (L0 := #[.val (.ref a), .val (.int (Int32.ofNat f)), .val (.int (Int32.ofNat e1)), .unset, .unset]) (fun m => by first | (simp [entryFrame, mkF, argsToLocals, Value.category, maxLocals]; done) | rfl) ?_
  intro p e s m below meth c T0 W0
  obtain ⟨-, -, ⟨b1, kb1, V1, B1⟩, hpc, hcl⟩ := id S
  refine Go.aload_n W0.cx d_jdk_42_method_92_0 (v := (.ref a)) rfl rfl ?_
  refine Go.invv1 W0 (strLen (wt := 0) W0.ew hw hG S (by decide) (by decide)) d_jdk_42_method_92_1 (wd hw 109 rfl) (wd hw 73 rfl) (wd hw 75 rfl) (wd hw 74 rfl) (by decide) S.exa pd_9 rfl rfl (rest := []) rfl (Nat.le_of_eq rfl) (cells' := 0) (slots' := 0) rfl rfl (by decide) (by decide) ?_
  rintro T1 h1 _ W1 z1 ⟨rfl, e1⟩
  subst e1
  refine Go.istore_n W1.cx d_jdk_42_method_92_4 (L' := #[.val (.ref a), .val (.int (Int32.ofNat f)), .val (.int (Int32.ofNat e1)), .val (.int (Int32.ofNat cs.length)), .unset]) rfl ?_
  refine Go.iload_n W1.cx d_jdk_42_method_92_5 (v := (Int32.ofNat f)) rfl ?_
  refine Go.iload_n W1.cx d_jdk_42_method_92_6 (v := (Int32.ofNat e1)) rfl ?_
  refine Go.iload_n W1.cx d_jdk_42_method_92_7 (v := (Int32.ofNat cs.length)) rfl ?_
  refine Go.invs0 W1 (Ctr.call (wt := 0) (c_cbe l Z a0 hw hE W1.old hG (f := f) (e1 := e1) (n := cs.length) h1 h2 hcl) W1.ew (wd hw 112 rfl) (wd hw 14 rfl) (by simp) (by decide) (by decide)) d_jdk_42_method_92_8 (wd hw 110 rfl) (wd hw 111 rfl) (wd hw 14 rfl) (wd hw 112 rfl) (by decide) pd_10 rfl rfl (rest := []) rfl (Nat.le_of_eq rfl) (cells' := 0) (slots' := 0) rfl rfl (by decide) (by decide) ?_
  rintro T2 h2 W2 z2 e2
  subst e2
  refine Go.iload_n W2.cx d_jdk_42_method_92_11 (v := (Int32.ofNat f)) rfl ?_
  refine Go.ifne W2.cx d_jdk_42_method_92_12 (by decide) (q := 22) rfl (fun c1 => ?_) (fun c1 => ?_)
  · refine Go.iload_n W2.cx d_jdk_42_method_92_22 (v := (Int32.ofNat e1)) rfl ?_
    refine Go.iload_n W2.cx d_jdk_42_method_92_23 (v := (Int32.ofNat f)) rfl ?_
    refine Go.isub W2.cx d_jdk_42_method_92_24 ?_
    refine Go.top (sub_nat (by omega) h1) ?_
    refine Go.istore W2.cx d_jdk_42_method_92_25 (L' := #[.val (.ref a), .val (.int (Int32.ofNat f)), .val (.int (Int32.ofNat e1)), .val (.int (Int32.ofNat cs.length)), .val (.int (Int32.ofNat (e1 - f)))]) rfl ?_
    refine Go.aload_n W2.cx d_jdk_42_method_92_27 (v := (.ref a)) rfl rfl ?_
    refine Go.invv1 W2 (Ctr.call (wt := 0) (c_lat1 l Z a0 hw hE W2.old hG S) W2.ew (wd hw 91 rfl) (wd hw 14 rfl) (by simp) (by decide) (by decide)) d_jdk_42_method_92_28 (wd hw 87 rfl) (wd hw 88 rfl) (wd hw 90 rfl) (wd hw 89 rfl) (by decide) S.exa pd_11 rfl rfl (rest := []) rfl (Nat.le_of_eq rfl) (cells' := 0) (slots' := 0) rfl rfl (by decide) (by decide) ?_
    rintro T3 h3 _ W3 z3 ⟨rfl, e3⟩
    subst e3
    refine Go.ifeq W3.cx d_jdk_42_method_92_31 (by decide) (q := 47) rfl (fun hh => (by first | exact absurd (by decide : ¬ (1 : Int32) = 0) hh | exact absurd hh (by decide : ¬ (1 : Int32) = 0))) (fun _ => ?_)
    refine Go.aload_n W3.cx d_jdk_42_method_92_34 (v := (.ref a)) rfl rfl ?_
    refine Go.getf W3 d_jdk_42_method_92_35 (wd hw 39 rfl) Via.refl V1 ?_
    intro T4 W4
    refine Go.iload_n W4.cx d_jdk_42_method_92_38 (v := (Int32.ofNat f)) rfl ?_
    refine Go.iload W4.cx d_jdk_42_method_92_39 (v := (Int32.ofNat (e1 - f))) rfl ?_
    refine Go.invs1 W4 (Ctr.call (wt := 0) (c_nstr l Z a0 hw hE W4.old B1 hpc hcl (f := f) (n := e1 - f) (by omega) hlt (by omega)) W4.ew (wd hw 118 rfl) (wd hw 94 rfl) (by simp) (by decide) (by decide)) d_jdk_42_method_92_41 (wd hw 116 rfl) (wd hw 117 rfl) (wd hw 94 rfl) (wd hw 118 rfl) (by decide) pd_12 rfl rfl (rest := []) rfl (Nat.le_of_eq rfl) (cells' := 2) (slots' := 10) rfl rfl (by decide) (by decide) ?_
    rintro T5 h5 _ W5 z5 ⟨r5, rfl, E5, S5⟩
    refine Go.goto W5.cx d_jdk_42_method_92_44 (by decide) (q := 57) rfl ?_
    exact Go.aret W5 d_jdk_42_method_92_57 rfl rfl rfl (by decide) (by decide) ⟨_, rfl, _, rfl, E5, S5⟩
  · have hf0 : f = 0 := (eq0_nat (by omega)).mp c1
    refine Go.iload_n W2.cx d_jdk_42_method_92_15 (v := (Int32.ofNat e1)) rfl ?_
    refine Go.iload_n W2.cx d_jdk_42_method_92_16 (v := (Int32.ofNat cs.length)) rfl ?_
    refine Go.icne W2.cx d_jdk_42_method_92_17 (by decide) (q := 22) rfl (fun _ => ?_) (fun hh => (by first | exact absurd (show ¬ Int32.ofNat e1 = Int32.ofNat cs.length by rw [eq_nat (by omega) (by omega)]; omega) hh | exact absurd hh (show ¬ Int32.ofNat e1 = Int32.ofNat cs.length by rw [eq_nat (by omega) (by omega)]; omega)))
    refine Go.iload_n W2.cx d_jdk_42_method_92_22 (v := (Int32.ofNat e1)) rfl ?_
    refine Go.iload_n W2.cx d_jdk_42_method_92_23 (v := (Int32.ofNat f)) rfl ?_
    refine Go.isub W2.cx d_jdk_42_method_92_24 ?_
    refine Go.top (sub_nat (by omega) h1) ?_
    refine Go.istore W2.cx d_jdk_42_method_92_25 (L' := #[.val (.ref a), .val (.int (Int32.ofNat f)), .val (.int (Int32.ofNat e1)), .val (.int (Int32.ofNat cs.length)), .val (.int (Int32.ofNat (e1 - f)))]) rfl ?_
    refine Go.aload_n W2.cx d_jdk_42_method_92_27 (v := (.ref a)) rfl rfl ?_
    refine Go.invv1 W2 (Ctr.call (wt := 0) (c_lat1 l Z a0 hw hE W2.old hG S) W2.ew (wd hw 91 rfl) (wd hw 14 rfl) (by simp) (by decide) (by decide)) d_jdk_42_method_92_28 (wd hw 87 rfl) (wd hw 88 rfl) (wd hw 90 rfl) (wd hw 89 rfl) (by decide) S.exa pd_11 rfl rfl (rest := []) rfl (Nat.le_of_eq rfl) (cells' := 0) (slots' := 0) rfl rfl (by decide) (by decide) ?_
    rintro T6 h6 _ W6 z6 ⟨rfl, e6⟩
    subst e6
    refine Go.ifeq W6.cx d_jdk_42_method_92_31 (by decide) (q := 47) rfl (fun hh => (by first | exact absurd (by decide : ¬ (1 : Int32) = 0) hh | exact absurd hh (by decide : ¬ (1 : Int32) = 0))) (fun _ => ?_)
    refine Go.aload_n W6.cx d_jdk_42_method_92_34 (v := (.ref a)) rfl rfl ?_
    refine Go.getf W6 d_jdk_42_method_92_35 (wd hw 39 rfl) Via.refl V1 ?_
    intro T7 W7
    refine Go.iload_n W7.cx d_jdk_42_method_92_38 (v := (Int32.ofNat f)) rfl ?_
    refine Go.iload W7.cx d_jdk_42_method_92_39 (v := (Int32.ofNat (e1 - f))) rfl ?_
    refine Go.invs1 W7 (Ctr.call (wt := 0) (c_nstr l Z a0 hw hE W7.old B1 hpc hcl (f := f) (n := e1 - f) (by omega) hlt (by omega)) W7.ew (wd hw 118 rfl) (wd hw 94 rfl) (by simp) (by decide) (by decide)) d_jdk_42_method_92_41 (wd hw 116 rfl) (wd hw 117 rfl) (wd hw 94 rfl) (wd hw 118 rfl) (by decide) pd_12 rfl rfl (rest := []) rfl (Nat.le_of_eq rfl) (cells' := 2) (slots' := 10) rfl rfl (by decide) (by decide) ?_
    rintro T8 h8 _ W8 z8 ⟨r8, rfl, E8, S8⟩
    refine Go.goto W8.cx d_jdk_42_method_92_44 (by decide) (q := 57) rfl ?_
    exact Go.aret W8 d_jdk_42_method_92_57 rfl rfl rfl (by decide) (by decide) ⟨_, rfl, _, rfl, E8, S8⟩
theorem d_jdk_42_method_91_0 : Dec jdk_42_method_91_code 0 (.aload_n 0) 1 1 := ⟨by decide +kernel, rfl⟩
theorem d_jdk_42_method_91_1 : Dec jdk_42_method_91_code 1 (.iload_n 1) 1 2 := ⟨by decide +kernel, rfl⟩
theorem d_jdk_42_method_91_2 : Dec jdk_42_method_91_code 2 (.aload_n 0) 1 3 := ⟨by decide +kernel, rfl⟩
theorem d_jdk_42_method_91_3 : Dec jdk_42_method_91_code 3 (.invokevirtual 505) 3 6 := ⟨by decide +kernel, rfl⟩
theorem d_jdk_42_method_91_6 : Dec jdk_42_method_91_code 6 (.invokevirtual 681) 3 9 := ⟨by decide +kernel, rfl⟩
theorem pd_13 : parseMethodDescriptor "(II)Ljava/lang/String;" = some ⟨[.int, .int], some (.object "java/lang/String")⟩ := by decide +kernel
theorem d_jdk_42_method_91_9 : Dec jdk_42_method_91_code 9 (.areturn) 1 10 := ⟨by decide +kernel, rfl⟩
set_option maxRecDepth 65536 in
set_option maxHeartbeats 40000000 in
theorem c_sub1 (l : Launch) (Z : State) (a0 : Array Value) (hw : ∀ d ∈ tables_1, d.before a0 Z = true) (hE : EW Z a0 EL0) {n0 : Nat} {h0 : Heap} (hO : Old Z n0 h0) (hG : Gl Z) {a : Addr} {cs : List Int32} (S : Str Z h0 a cs) {f : Nat} (h0f : 0 < f) (h1 : f ≤ cs.length) (h0l : 0 < cs.length) (hcap : cs.length - f ≤ 6) :
    Ctr NW EL0 n0 Z [] l (⟨"java/lang/String", "substring", "(I)Ljava/lang/String;"⟩ : MethodName) jdk_42_method_91_code 2 (some (.object "java/lang/String")) ({ frames := 5, cells := 2, slots := 10, locals := 80 } : Room) #[.ref a, .int (Int32.ofNat f)] h0 (RV fun w h => ∃ r, w = .ref r ∧ Ext h0 h ∧ Str Z h r ((cs.drop f).take (cs.length - f))) := by
  refine Ctr.body (plainFor_of_name pn_0) hE hO (fun x q => nomatch q) (L0 := #[.val (.ref a), .val (.int (Int32.ofNat f))]) (fun m => by first | (simp [entryFrame, mkF, argsToLocals, Value.category, maxLocals]; done) | rfl) ?_
  intro p e s m below meth c T0 W0
  have hcl := S.2.2.2.2
  refine Go.aload_n W0.cx d_jdk_42_method_91_0 (v := (.ref a)) rfl rfl ?_
  refine Go.iload_n W0.cx d_jdk_42_method_91_1 (v := (Int32.ofNat f)) rfl ?_
  refine Go.aload_n W0.cx d_jdk_42_method_91_2 (v := (.ref a)) rfl rfl ?_
  refine Go.invv1 W0 (strLen (wt := 2) W0.ew hw hG S (by decide) (by decide)) d_jdk_42_method_91_3 (wd hw 109 rfl) (wd hw 73 rfl) (wd hw 75 rfl) (wd hw 74 rfl) (by decide) S.exa pd_9 rfl rfl (rest := [(.int (Int32.ofNat f)), (.ref a)]) rfl (Nat.le_of_eq rfl) (cells' := 0) (slots' := 0) rfl rfl (by decide) (by decide) ?_
  rintro T1 h1 _ W1 z1 ⟨rfl, e1⟩
  subst e1
  refine Go.invv1 W1 (Ctr.call (wt := 0) (c_sub l Z a0 hw hE W1.old hG S (f := f) (e1 := cs.length) h1 (Nat.le_refl _) (by omega) hcap) W1.ew (wd hw 108 rfl) (wd hw 14 rfl) (by simp) (by decide) (by decide)) d_jdk_42_method_91_6 (wd hw 211 rfl) (wd hw 105 rfl) (wd hw 107 rfl) (wd hw 106 rfl) (by decide) S.exa pd_13 rfl rfl (rest := []) rfl (Nat.le_of_eq rfl) (cells' := 2) (slots' := 10) rfl rfl (by decide) (by decide) ?_
  rintro T2 h2 _ W2 z2 ⟨r2, rfl, E2, S2⟩
  exact Go.aret W2 d_jdk_42_method_91_9 rfl rfl rfl (by decide) (by decide) ⟨_, rfl, _, rfl, E2, S2⟩
theorem d_jdk_43_method_39_0 : Dec jdk_43_method_39_code 0 (.aload_n 0) 1 1 := ⟨by decide +kernel, rfl⟩
theorem d_jdk_43_method_39_1 : Dec jdk_43_method_39_code 1 (.invokestatic 214) 3 4 := ⟨by decide +kernel, rfl⟩
theorem pd_14 : parseMethodDescriptor "([B)I" = some ⟨[(.array .byte)], some .int⟩ := by decide +kernel
theorem d_jdk_43_method_39_4 : Dec jdk_43_method_39_code 4 (.istore_n 1) 1 5 := ⟨by decide +kernel, rfl⟩
theorem d_jdk_43_method_39_5 : Dec jdk_43_method_39_code 5 (.iload_n 1) 1 6 := ⟨by decide +kernel, rfl⟩
theorem d_jdk_43_method_39_6 : Dec jdk_43_method_39_code 6 (.aload_n 0) 1 7 := ⟨by decide +kernel, rfl⟩
theorem d_jdk_43_method_39_7 : Dec jdk_43_method_39_code 7 (.arraylength) 1 8 := ⟨by decide +kernel, rfl⟩
theorem d_jdk_43_method_39_8 : Dec jdk_43_method_39_code 8 (.if_icmp .ne 6) 3 11 := ⟨by decide +kernel, rfl⟩
theorem d_jdk_43_method_39_14 : Dec jdk_43_method_39_code 14 (.aload_n 0) 1 15 := ⟨by decide +kernel, rfl⟩
theorem d_jdk_43_method_39_15 : Dec jdk_43_method_39_code 15 (.invokestatic 217) 3 18 := ⟨by decide +kernel, rfl⟩
theorem d_jdk_43_method_39_18 : Dec jdk_43_method_39_code 18 (.istore_n 2) 1 19 := ⟨by decide +kernel, rfl⟩
theorem d_jdk_43_method_39_19 : Dec jdk_43_method_39_code 19 (.iload_n 1) 1 20 := ⟨by decide +kernel, rfl⟩
theorem d_jdk_43_method_39_20 : Dec jdk_43_method_39_code 20 (.ifCond .gt 9) 3 23 := ⟨by decide +kernel, rfl⟩
theorem d_jdk_43_method_39_29 : Dec jdk_43_method_39_code 29 (.iconst 1) 1 30 := ⟨by decide +kernel, rfl⟩
theorem d_jdk_43_method_39_30 : Dec jdk_43_method_39_code 30 (.goto 4) 3 33 := ⟨by decide +kernel, rfl⟩
theorem d_jdk_43_method_39_34 : Dec jdk_43_method_39_code 34 (.istore_n 3) 1 35 := ⟨by decide +kernel, rfl⟩
theorem d_jdk_43_method_39_35 : Dec jdk_43_method_39_code 35 (.iload_n 3) 1 36 := ⟨by decide +kernel, rfl⟩
theorem d_jdk_43_method_39_36 : Dec jdk_43_method_39_code 36 (.ifCond .eq 14) 3 39 := ⟨by decide +kernel, rfl⟩
theorem d_jdk_43_method_39_39 : Dec jdk_43_method_39_code 39 (.aload_n 0) 1 40 := ⟨by decide +kernel, rfl⟩
theorem d_jdk_43_method_39_40 : Dec jdk_43_method_39_code 40 (.iload_n 1) 1 41 := ⟨by decide +kernel, rfl⟩
theorem d_jdk_43_method_39_41 : Dec jdk_43_method_39_code 41 (.iload_n 2) 1 42 := ⟨by decide +kernel, rfl⟩
theorem d_jdk_43_method_39_42 : Dec jdk_43_method_39_code 42 (.iload_n 1) 1 43 := ⟨by decide +kernel, rfl⟩
theorem d_jdk_43_method_39_43 : Dec jdk_43_method_39_code 43 (.isub) 1 44 := ⟨by decide +kernel, rfl⟩
theorem d_jdk_43_method_39_44 : Dec jdk_43_method_39_code 44 (.invokestatic 210) 3 47 := ⟨by decide +kernel, rfl⟩
theorem d_jdk_43_method_39_47 : Dec jdk_43_method_39_code 47 (.goto 4) 3 50 := ⟨by decide +kernel, rfl⟩
theorem d_jdk_43_method_39_51 : Dec jdk_43_method_39_code 51 (.areturn) 1 52 := ⟨by decide +kernel, rfl⟩
theorem d_jdk_43_method_39_23 : Dec jdk_43_method_39_code 23 (.iload_n 2) 1 24 := ⟨by decide +kernel, rfl⟩
theorem d_jdk_43_method_39_24 : Dec jdk_43_method_39_code 24 (.aload_n 0) 1 25 := ⟨by decide +kernel, rfl⟩
theorem d_jdk_43_method_39_25 : Dec jdk_43_method_39_code 25 (.arraylength) 1 26 := ⟨by decide +kernel, rfl⟩
theorem d_jdk_43_method_39_26 : Dec jdk_43_method_39_code 26 (.if_icmp .ge 7) 3 29 := ⟨by decide +kernel, rfl⟩
theorem d_jdk_43_method_39_33 : Dec jdk_43_method_39_code 33 (.iconst 0) 1 34 := ⟨by decide +kernel, rfl⟩
theorem d_jdk_43_method_39_50 : Dec jdk_43_method_39_code 50 (.aconst_null) 1 51 := ⟨by decide +kernel, rfl⟩
theorem d_jdk_43_method_39_11 : Dec jdk_43_method_39_code 11 (.ldc 151) 2 13 := ⟨by decide +kernel, rfl⟩
theorem d_jdk_43_method_39_13 : Dec jdk_43_method_39_code 13 (.areturn) 1 14 := ⟨by decide +kernel, rfl⟩
set_option maxRecDepth 65536 in
set_option maxHeartbeats 40000000 in
theorem c_l1strip (l : Launch) (Z : State) (a0 : Array Value) (hw : ∀ d ∈ tables_1, d.before a0 Z = true) (hE : EW Z a0 EL0) {n0 : Nat} {h0 : Heap} (hO : Old Z n0 h0) (hL : Lat Z) {b : Addr} {kb : ClassId} {cs : List Int32} (A : BArr Z h0 b kb cs) (hpc : ∀ c ∈ cs, ¬ c < 0 ∧ ¬ (255 : Int32) < c) (hcl : cs.length ≤ 4000) (hcap : cs.length ≤ 6) :
    Ctr NW EL0 n0 Z [] l (⟨"java/lang/StringLatin1", "strip", "([B)Ljava/lang/String;"⟩ : MethodName) jdk_43_method_39_code 4 (some (.object "java/lang/String")) ({ frames := 4, cells := 2, slots := 10, locals := 64 } : Room) #[.ref b] h0 (RV fun w h => ∃ i j : Nat, ((∀ t, t < i → wsP (cs.getD t 0)) ∧ (∀ t, j ≤ t → t < cs.length → wsP (cs.getD t 0)) ∧ ((i = cs.length ∧ j = i) ∨ (i < j ∧ j ≤ cs.length ∧ ¬ wsP (cs.getD i 0) ∧ ¬ wsP (cs.getD (j - 1) 0)))) ∧ Ext h0 h ∧ ((w = .null ∧ i = 0 ∧ j = cs.length) ∨ ∃ r, w = .ref r ∧ Str Z h r ((cs.drop i).take (j - i)))) := by
  refine Ctr.body (plainFor_of_name pn_1) hE hO (fun x q => nomatch q) (L0 := #[.val (.ref b), .unset, .unset, .unset]) (fun m => by first | (simp [entryFrame, mkF, argsToLocals, Value.category, maxLocals]; done) | rfl) ?_
  intro p e s m below meth c T0 W0
  refine Go.aload_n W0.cx d_jdk_43_method_39_0 (v := (.ref b)) rfl rfl ?_
  refine Go.invs1 W0 (Ctr.call (wt := 0) (c_inw l Z a0 hw hE W0.old hL A hpc hcl) W0.ew (wd hw 151 rfl) (wd hw 94 rfl) (by simp) (by decide) (by decide)) d_jdk_43_method_39_1 (wd hw 149 rfl) (wd hw 150 rfl) (wd hw 94 rfl) (wd hw 151 rfl) (by decide) pd_14 rfl rfl (rest := []) rfl (Nat.le_of_eq rfl) (cells' := 0) (slots' := 0) rfl rfl (by decide) (by decide) ?_
  rintro T1 h1 _ W1 z1 ⟨i, rfl, hi, hi1, hi2, e1⟩
  subst e1
  refine Go.istore_n W1.cx d_jdk_43_method_39_4 (L' := #[.val (.ref b), .val (.int (Int32.ofNat i)), .unset, .unset]) rfl ?_
  refine Go.iload_n W1.cx d_jdk_43_method_39_5 (v := (Int32.ofNat i)) rfl ?_
  refine Go.aload_n W1.cx d_jdk_43_method_39_6 (v := (.ref b)) rfl rfl ?_
  refine Go.alen W1 d_jdk_43_method_39_7 A ?_
  refine Go.icne W1.cx d_jdk_43_method_39_8 (by decide) (q := 14) rfl (fun c1 => ?_) (fun c1 => ?_)
  · have hil : i < cs.length := by have : ¬ i = cs.length := fun z => c1 ((eq_nat (by omega) (by omega)).mpr z); omega
    refine Go.aload_n W1.cx d_jdk_43_method_39_14 (v := (.ref b)) rfl rfl ?_
    refine Go.invs1 W1 (Ctr.call (wt := 0) (c_linw l Z a0 hw hE W1.old hL A hpc hcl) W1.ew (wd hw 170 rfl) (wd hw 94 rfl) (by simp) (by decide) (by decide)) d_jdk_43_method_39_15 (wd hw 168 rfl) (wd hw 169 rfl) (wd hw 94 rfl) (wd hw 170 rfl) (by decide) pd_14 rfl rfl (rest := []) rfl (Nat.le_of_eq rfl) (cells' := 0) (slots' := 0) rfl rfl (by decide) (by decide) ?_
    rintro T2 h2 _ W2 z2 ⟨j, rfl, hj, hj1, hj2, e2⟩
    subst e2
    have hij : i < j := Nat.lt_of_not_le (fun z => hi2 hil (hj1 i z hil))
    have hSP : (∀ t, t < i → wsP (cs.getD t 0)) ∧ (∀ t, j ≤ t → t < cs.length → wsP (cs.getD t 0)) ∧ ((i = cs.length ∧ j = i) ∨ (i < j ∧ j ≤ cs.length ∧ ¬ wsP (cs.getD i 0) ∧ ¬ wsP (cs.getD (j - 1) 0))) := ⟨hi1, hj1, Or.inr ⟨hij, hj, hi2 hil, hj2 (by omega)⟩⟩
    refine Go.istore_n W2.cx d_jdk_43_method_39_18 (L' := #[.val (.ref b), .val (.int (Int32.ofNat i)), .val (.int (Int32.ofNat j)), .unset]) rfl ?_
    refine Go.iload_n W2.cx d_jdk_43_method_39_19 (v := (Int32.ofNat i)) rfl ?_
    refine Go.ifgt W2.cx d_jdk_43_method_39_20 (by decide) (q := 29) rfl (fun c2 => ?_) (fun c2 => ?_)
    · have hi0 : 0 < i := (lt_nat (a := 0) (by omega) (by omega)).mp c2
      refine Go.iconst W2.cx d_jdk_43_method_39_29 (z := (1 : Int32)) rfl ?_
      refine Go.goto W2.cx d_jdk_43_method_39_30 (by decide) (q := 34) rfl ?_
      refine Go.istore_n W2.cx d_jdk_43_method_39_34 (L' := #[.val (.ref b), .val (.int (Int32.ofNat i)), .val (.int (Int32.ofNat j)), .val (.int (1 : Int32))]) rfl ?_
      refine Go.iload_n W2.cx d_jdk_43_method_39_35 (v := (1 : Int32)) rfl ?_
      refine Go.ifeq W2.cx d_jdk_43_method_39_36 (by decide) (q := 50) rfl (fun hh => (by first | exact absurd (by decide : ¬ (1 : Int32) = 0) hh | exact absurd hh (by decide : ¬ (1 : Int32) = 0))) (fun _ => ?_)
      refine Go.aload_n W2.cx d_jdk_43_method_39_39 (v := (.ref b)) rfl rfl ?_
      refine Go.iload_n W2.cx d_jdk_43_method_39_40 (v := (Int32.ofNat i)) rfl ?_
      refine Go.iload_n W2.cx d_jdk_43_method_39_41 (v := (Int32.ofNat j)) rfl ?_
      refine Go.iload_n W2.cx d_jdk_43_method_39_42 (v := (Int32.ofNat i)) rfl ?_
      refine Go.isub W2.cx d_jdk_43_method_39_43 ?_
      refine Go.top (sub_nat (by omega) (by omega)) ?_
      refine Go.invs1 W2 (Ctr.call (wt := 0) (c_nstr l Z a0 hw hE W2.old A hpc hcl (f := i) (n := j - i) (by omega) (by omega) (by omega)) W2.ew (wd hw 118 rfl) (wd hw 94 rfl) (by simp) (by decide) (by decide)) d_jdk_43_method_39_44 (wd hw 171 rfl) (wd hw 117 rfl) (wd hw 94 rfl) (wd hw 118 rfl) (by decide) pd_12 rfl rfl (rest := []) rfl (Nat.le_of_eq rfl) (cells' := 2) (slots' := 10) rfl rfl (by decide) (by decide) ?_
      rintro T3 h3 _ W3 z3 ⟨r3, rfl, E3, S3⟩
      refine Go.goto W3.cx d_jdk_43_method_39_47 (by decide) (q := 51) rfl ?_
      exact Go.aret W3 d_jdk_43_method_39_51 rfl rfl rfl (by decide) (by decide) ⟨_, rfl, i, j, hSP, E3, Or.inr ⟨_, rfl, S3⟩⟩
    · have hi0 : i = 0 := by have : ¬ 0 < i := fun z => c2 ((lt_nat (a := 0) (by omega) (by omega)).mpr z); omega
      refine Go.iload_n W2.cx d_jdk_43_method_39_23 (v := (Int32.ofNat j)) rfl ?_
      refine Go.aload_n W2.cx d_jdk_43_method_39_24 (v := (.ref b)) rfl rfl ?_
      refine Go.alen W2 d_jdk_43_method_39_25 A ?_
      refine Go.icge W2.cx d_jdk_43_method_39_26 (by decide) (q := 33) rfl (fun c3 => ?_) (fun c3 => ?_)
      · have hjl : j = cs.length := by have : ¬ j < cs.length := fun q => c3 ((lt_nat (by omega) (by omega)).mpr q); omega
        refine Go.iconst W2.cx d_jdk_43_method_39_33 (z := (0 : Int32)) rfl ?_
        refine Go.istore_n W2.cx d_jdk_43_method_39_34 (L' := #[.val (.ref b), .val (.int (Int32.ofNat i)), .val (.int (Int32.ofNat j)), .val (.int (0 : Int32))]) rfl ?_
        refine Go.iload_n W2.cx d_jdk_43_method_39_35 (v := (0 : Int32)) rfl ?_
        refine Go.ifeq W2.cx d_jdk_43_method_39_36 (by decide) (q := 50) rfl (fun _ => ?_) (fun hh => (by first | exact absurd (rfl : (0 : Int32) = 0) hh | exact absurd hh (rfl : (0 : Int32) = 0)))
        refine Go.aconst_null W2.cx d_jdk_43_method_39_50 ?_
        exact Go.aret W2 d_jdk_43_method_39_51 rfl rfl rfl (by decide) (by decide) ⟨_, rfl, i, j, hSP, ext_refl _, Or.inl ⟨rfl, hi0, hjl⟩⟩
      · have hjl : j < cs.length := (lt_nat (by omega) (by omega)).mp c3
        refine Go.iconst W2.cx d_jdk_43_method_39_29 (z := (1 : Int32)) rfl ?_
        refine Go.goto W2.cx d_jdk_43_method_39_30 (by decide) (q := 34) rfl ?_
        refine Go.istore_n W2.cx d_jdk_43_method_39_34 (L' := #[.val (.ref b), .val (.int (Int32.ofNat i)), .val (.int (Int32.ofNat j)), .val (.int (1 : Int32))]) rfl ?_
        refine Go.iload_n W2.cx d_jdk_43_method_39_35 (v := (1 : Int32)) rfl ?_
        refine Go.ifeq W2.cx d_jdk_43_method_39_36 (by decide) (q := 50) rfl (fun hh => (by first | exact absurd (by decide : ¬ (1 : Int32) = 0) hh | exact absurd hh (by decide : ¬ (1 : Int32) = 0))) (fun _ => ?_)
        refine Go.aload_n W2.cx d_jdk_43_method_39_39 (v := (.ref b)) rfl rfl ?_
        refine Go.iload_n W2.cx d_jdk_43_method_39_40 (v := (Int32.ofNat i)) rfl ?_
        refine Go.iload_n W2.cx d_jdk_43_method_39_41 (v := (Int32.ofNat j)) rfl ?_
        refine Go.iload_n W2.cx d_jdk_43_method_39_42 (v := (Int32.ofNat i)) rfl ?_
        refine Go.isub W2.cx d_jdk_43_method_39_43 ?_
        refine Go.top (sub_nat (by omega) (by omega)) ?_
        refine Go.invs1 W2 (Ctr.call (wt := 0) (c_nstr l Z a0 hw hE W2.old A hpc hcl (f := i) (n := j - i) (by omega) (by omega) (by omega)) W2.ew (wd hw 118 rfl) (wd hw 94 rfl) (by simp) (by decide) (by decide)) d_jdk_43_method_39_44 (wd hw 171 rfl) (wd hw 117 rfl) (wd hw 94 rfl) (wd hw 118 rfl) (by decide) pd_12 rfl rfl (rest := []) rfl (Nat.le_of_eq rfl) (cells' := 2) (slots' := 10) rfl rfl (by decide) (by decide) ?_
        rintro T4 h4 _ W4 z4 ⟨r4, rfl, E4, S4⟩
        refine Go.goto W4.cx d_jdk_43_method_39_47 (by decide) (q := 51) rfl ?_
        exact Go.aret W4 d_jdk_43_method_39_51 rfl rfl rfl (by decide) (by decide) ⟨_, rfl, i, j, hSP, E4, Or.inr ⟨_, rfl, S4⟩⟩
  · have hil : i = cs.length := (eq_nat (by omega) (by omega)).mp c1
    refine Go.ldcS W1 (fun q => q) d_jdk_43_method_39_11 (wd hw 212 rfl) (wS hw) (by decide) (cs := []) ⟨by decide, by decide +kernel⟩ (by decide) (by decide) (nn := 0) (by decide) (by decide) (cells' := 2) (slots' := 4) rfl rfl (by decide) (by decide) ?_
    intro T5 h5 l5 b5 kb5 W5 E5 A5 C5 V5 B5 X5 S5
    exact Go.aret W5 d_jdk_43_method_39_13 rfl rfl rfl (by decide) (by decide) ⟨_, rfl, i, i, ⟨hi1, fun t h1 h2 => absurd h1 (by omega), Or.inl ⟨hil, rfl⟩⟩, E5, Or.inr ⟨_, rfl, by rw [Nat.sub_self, List.take_zero]; exact S5⟩⟩
theorem d_jdk_42_method_114_0 : Dec jdk_42_method_114_code 0 (.aload_n 0) 1 1 := ⟨by decide +kernel, rfl⟩
theorem d_jdk_42_method_114_1 : Dec jdk_42_method_114_code 1 (.invokevirtual 492) 3 4 := ⟨by decide +kernel, rfl⟩
theorem d_jdk_42_method_114_4 : Dec jdk_42_method_114_code 4 (.ifCond .eq 13) 3 7 := ⟨by decide +kernel, rfl⟩
theorem d_jdk_42_method_114_7 : Dec jdk_42_method_114_code 7 (.aload_n 0) 1 8 := ⟨by decide +kernel, rfl⟩
theorem d_jdk_42_method_114_8 : Dec jdk_42_method_114_code 8 (.getfield 9) 3 11 := ⟨by decide +kernel, rfl⟩
theorem d_jdk_42_method_114_11 : Dec jdk_42_method_114_code 11 (.invokestatic 864) 3 14 := ⟨by decide +kernel, rfl⟩
theorem pd_15 : parseMethodDescriptor "([B)Ljava/lang/String;" = some ⟨[(.array .byte)], some (.object "java/lang/String")⟩ := by decide +kernel
theorem d_jdk_42_method_114_14 : Dec jdk_42_method_114_code 14 (.goto 10) 3 17 := ⟨by decide +kernel, rfl⟩
theorem d_jdk_42_method_114_24 : Dec jdk_42_method_114_code 24 (.astore_n 1) 1 25 := ⟨by decide +kernel, rfl⟩
theorem d_jdk_42_method_114_25 : Dec jdk_42_method_114_code 25 (.aload_n 1) 1 26 := ⟨by decide +kernel, rfl⟩
theorem d_jdk_42_method_114_26 : Dec jdk_42_method_114_code 26 (.ifnonnull 7) 3 29 := ⟨by decide +kernel, rfl⟩
theorem d_jdk_42_method_114_29 : Dec jdk_42_method_114_code 29 (.aload_n 0) 1 30 := ⟨by decide +kernel, rfl⟩
theorem d_jdk_42_method_114_30 : Dec jdk_42_method_114_code 30 (.goto 4) 3 33 := ⟨by decide +kernel, rfl⟩
theorem d_jdk_42_method_114_34 : Dec jdk_42_method_114_code 34 (.areturn) 1 35 := ⟨by decide +kernel, rfl⟩
theorem d_jdk_42_method_114_33 : Dec jdk_42_method_114_code 33 (.aload_n 1) 1 34 := ⟨by decide +kernel, rfl⟩
set_option maxRecDepth 65536 in
set_option maxHeartbeats 40000000 in
theorem c_strip (l : Launch) (Z : State) (a0 : Array Value) (hw : ∀ d ∈ tables_1, d.before a0 Z = true) (hE : EW Z a0 EL0) {n0 : Nat} {h0 : Heap} (hO : Old Z n0 h0) (hG : Gl Z) (hL : Lat Z) {a : Addr} {cs : List Int32} (S : Str Z h0 a cs) (hcap : cs.length ≤ 6) :
    Ctr NW EL0 n0 Z [] l (⟨"java/lang/String", "strip", "()Ljava/lang/String;"⟩ : MethodName) jdk_42_method_114_code 2 (some (.object "java/lang/String")) ({ frames := 5, cells := 2, slots := 10, locals := 79 } : Room) #[.ref a] h0 (RV fun w h => ∃ (i j : Nat) (r : Addr), w = .ref r ∧ ((∀ t, t < i → wsP (cs.getD t 0)) ∧ (∀ t, j ≤ t → t < cs.length → wsP (cs.getD t 0)) ∧ ((i = cs.length ∧ j = i) ∨ (i < j ∧ j ≤ cs.length ∧ ¬ wsP (cs.getD i 0) ∧ ¬ wsP (cs.getD (j - 1) 0)))) ∧ Ext h0 h ∧ Str Z h r ((cs.drop i).take (j - i))) := by
  refine Ctr.body (plainFor_of_name pn_0) hE hO (fun x q => nomatch q) (L0 := #[.val (.ref a), .unset]) (fun m => by first | (simp [entryFrame, mkF, argsToLocals, Value.category, maxLocals]; done) | rfl) ?_
  intro p e s m below meth c T0 W0
  obtain ⟨-, -, ⟨b1, kb1, V1, B1⟩, hpc, hcl⟩ := id S
  refine Go.aload_n W0.cx d_jdk_42_method_114_0 (v := (.ref a)) rfl rfl ?_
  refine Go.invv1 W0 (Ctr.call (wt := 0) (c_lat1 l Z a0 hw hE W0.old hG S) W0.ew (wd hw 91 rfl) (wd hw 14 rfl) (by simp) (by decide) (by decide)) d_jdk_42_method_114_1 (wd hw 87 rfl) (wd hw 88 rfl) (wd hw 90 rfl) (wd hw 89 rfl) (by decide) S.exa pd_11 rfl rfl (rest := []) rfl (Nat.le_of_eq rfl) (cells' := 0) (slots' := 0) rfl rfl (by decide) (by decide) ?_
  rintro T1 h1 _ W1 z1 ⟨rfl, e1⟩
  subst e1
  refine Go.ifeq W1.cx d_jdk_42_method_114_4 (by decide) (q := 17) rfl (fun hh => (by first | exact absurd (by decide : ¬ (1 : Int32) = 0) hh | exact absurd hh (by decide : ¬ (1 : Int32) = 0))) (fun _ => ?_)
  refine Go.aload_n W1.cx d_jdk_42_method_114_7 (v := (.ref a)) rfl rfl ?_
  refine Go.getf W1 d_jdk_42_method_114_8 (wd hw 39 rfl) Via.refl V1 ?_
  intro T2 W2
  refine Go.invs1 W2 (Ctr.call (wt := 0) (c_l1strip l Z a0 hw hE W2.old hL B1 hpc hcl hcap) W2.ew (wd hw 148 rfl) (wd hw 94 rfl) (by simp) (by decide) (by decide)) d_jdk_42_method_114_11 (wd hw 146 rfl) (wd hw 147 rfl) (wd hw 94 rfl) (wd hw 148 rfl) (by decide) pd_15 rfl rfl (rest := []) rfl (Nat.le_of_eq rfl) (cells' := 2) (slots' := 10) rfl rfl (by decide) (by decide) ?_
  rintro T3 h3 v3 W3 z3 ⟨i, j, hSP, E3, H3⟩
  rcases H3 with ⟨rfl, hi0, hj0⟩ | ⟨r, rfl, Sr⟩
  · refine Go.goto W3.cx d_jdk_42_method_114_14 (by decide) (q := 24) rfl ?_
    refine Go.astore_n W3.cx d_jdk_42_method_114_24 (L' := #[.val (.ref a), .val .null]) rfl rfl ?_
    refine Go.aload_n W3.cx d_jdk_42_method_114_25 (v := .null) rfl rfl ?_
    refine Go.ifnonnull_n W3.cx d_jdk_42_method_114_26 ?_
    refine Go.aload_n W3.cx d_jdk_42_method_114_29 (v := (.ref a)) rfl rfl ?_
    refine Go.goto W3.cx d_jdk_42_method_114_30 (by decide) (q := 34) rfl ?_
    exact Go.aret W3 d_jdk_42_method_114_34 rfl rfl rfl (by decide) (by decide) ⟨_, rfl, i, j, a, rfl, hSP, E3, by rw [hi0, hj0, List.drop_zero, Nat.sub_zero, List.take_length]; exact S.ext E3⟩
  · refine Go.goto W3.cx d_jdk_42_method_114_14 (by decide) (q := 24) rfl ?_
    refine Go.astore_n W3.cx d_jdk_42_method_114_24 (L' := #[.val (.ref a), .val (.ref r)]) rfl rfl ?_
    refine Go.aload_n W3.cx d_jdk_42_method_114_25 (v := (.ref r)) rfl rfl ?_
    refine Go.ifnonnull_y W3.cx d_jdk_42_method_114_26 (by decide) (q := 33) rfl ?_
    refine Go.aload_n W3.cx d_jdk_42_method_114_33 (v := (.ref r)) rfl rfl ?_
    exact Go.aret W3 d_jdk_42_method_114_34 rfl rfl rfl (by decide) (by decide) ⟨_, rfl, i, j, r, rfl, hSP, E3, Sr⟩
def DF (Z : State) (D : Addr) : Prop := Sta Z Z.heap "java/util/ArrayList" "DEFAULTCAPACITY_EMPTY_ELEMENTDATA" "[Ljava/lang/Object;" (.ref D) ∧ OAr Z Z.heap D "java/lang/Object" "[Ljava/lang/Object;" []
def AL1 (Z : State) (h : Heap) (a d : Addr) (n : Nat) (vs : List Value) : Prop := Exa Z h a "java/util/ArrayList" ∧ (∃ mc : Int32, Fld Z h a "java/util/AbstractList" "modCount" "I" (.int mc)) ∧ Fld Z h a "java/util/ArrayList" "size" "I" (.int (Int32.ofNat n)) ∧ Fld Z h a "java/util/ArrayList" "elementData" "[Ljava/lang/Object;" (.ref d) ∧ OAw Z h d "java/lang/Object" "[Ljava/lang/Object;" vs ∧ vs.length = 10 ∧ d ≠ a
theorem AL1.ext {Z : State} {h h' : Heap} {a d : Addr} {n : Nat} {vs : List Value} (B : AL1 Z h a d n vs) (E : Ext h h') : AL1 Z h' a d n vs := by
  obtain ⟨h1, ⟨mc, h2⟩, h3, h4, h5, r⟩ := B
  exact ⟨h1.ext E, ⟨mc, h2.ext E⟩, h3.ext E, h4.ext E, h5.ext E, r⟩
theorem ne_ge3 {x b : Addr} {h : Heap} (l : x < h.size) (g : h.size ≤ b) : b ≠ x := fun e => by subst e; exact absurd l (Nat.not_lt.mpr g)
theorem hTo {a0 : Array Value} {Z : State} (hw : ∀ d ∈ tables_1, d.before a0 Z = true) {vs : List Value} (h : vs.length = 10) : ∀ p ∈ EL0, ∃ text : String, (Cond.stringLink p.1 p.2 text).before a0 Z = true ∧ (∀ c ∈ text.toList, c.toNat < 256) ∧ text.toList.length ≠ vs.length := by
  intro p hp
  rw [h]
  rcases List.mem_cons.mp hp with rfl | hp
  · exact ⟨_, wd hw 41 rfl, by decide, by decide⟩
  rcases List.mem_cons.mp hp with rfl | hp
  · exact ⟨_, wd hw 212 rfl, by decide, by decide⟩
  cases hp
theorem pn_5 : plainName "java/util/AbstractCollection" = true := by first | (simp [plainName, overriddenIn]; done) | decide +kernel
theorem d_jdk_22_method_1_0 : Dec jdk_22_method_1_code 0 (.aload_n 0) 1 1 := ⟨by decide +kernel, rfl⟩
theorem d_jdk_22_method_1_1 : Dec jdk_22_method_1_code 1 (.invokespecial 1) 3 4 := ⟨by decide +kernel, rfl⟩
theorem d_jdk_22_method_1_4 : Dec jdk_22_method_1_code 4 (.return_) 1 5 := ⟨by decide +kernel, rfl⟩
set_option maxRecDepth 65536 in
set_option maxHeartbeats 40000000 in
theorem c_aci (l : Launch) (Z : State) (a0 : Array Value) (hw : ∀ d ∈ tables_1, d.before a0 Z = true) (hE : EW Z a0 EL0) {n0 : Nat} {h0 : Heap} (hO : Old Z n0 h0) (a : Addr) :
    Ctr NW EL0 n0 Z [] l (⟨"java/util/AbstractCollection", "<init>", "()V"⟩ : MethodName) jdk_22_method_1_code 1 none ({ frames := 1, cells := 0, slots := 0, locals := 12 } : Room) #[.ref a] h0 (RN fun h => h0 = h) := by
  refine Ctr.body (plainFor_of_name pn_5) hE hO (fun x q => nomatch q) (L0 := #[.val (.ref a)]) (fun m => by first | (simp [entryFrame, mkF, argsToLocals, Value.category, maxLocals]; done) | rfl) ?_
  intro p e s m below meth c T0 W0
  refine Go.aload_n W0.cx d_jdk_22_method_1_0 (v := (.ref a)) rfl rfl ?_
  refine Go.initObj W0 d_jdk_22_method_1_1 (wd hw 66 rfl) (wd hw 23 rfl) (wd hw 24 rfl) rfl (by decide) (wt := 0) rfl (by decide) ?_
  intro T1 W1
  exact Go.vret W1 d_jdk_22_method_1_4 (by decide) (by decide) ⟨rfl, rfl⟩
theorem pn_6 : plainName "java/util/AbstractList" = true := by first | (simp [plainName, overriddenIn]; done) | decide +kernel
theorem d_jdk_39_method_1_0 : Dec jdk_39_method_1_code 0 (.aload_n 0) 1 1 := ⟨by decide +kernel, rfl⟩
theorem d_jdk_39_method_1_1 : Dec jdk_39_method_1_code 1 (.invokespecial 1) 3 4 := ⟨by decide +kernel, rfl⟩
theorem pd_16 : parseMethodDescriptor "()V" = some ⟨[], none⟩ := by decide +kernel
theorem d_jdk_39_method_1_4 : Dec jdk_39_method_1_code 4 (.aload_n 0) 1 5 := ⟨by decide +kernel, rfl⟩
theorem d_jdk_39_method_1_5 : Dec jdk_39_method_1_code 5 (.iconst 0) 1 6 := ⟨by decide +kernel, rfl⟩
theorem d_jdk_39_method_1_6 : Dec jdk_39_method_1_code 6 (.putfield 7) 3 9 := ⟨by decide +kernel, rfl⟩
theorem d_jdk_39_method_1_9 : Dec jdk_39_method_1_code 9 (.return_) 1 10 := ⟨by decide +kernel, rfl⟩
set_option maxRecDepth 65536 in
set_option maxHeartbeats 40000000 in
theorem c_abl (l : Launch) (Z : State) (a0 : Array Value) (hw : ∀ d ∈ tables_1, d.before a0 Z = true) (hE : EW Z a0 EL0) {n0 : Nat} {h0 : Heap} (hO : Old Z n0 h0) {a : Addr} (ha : n0 ≤ a) (E_a : Exa Z h0 a "java/util/ArrayList") (Fm : Fld Z h0 a "java/util/AbstractList" "modCount" "I" (.int 0)) (Fs : Fld Z h0 a "java/util/ArrayList" "size" "I" (.int 0)) (Fe : Fld Z h0 a "java/util/ArrayList" "elementData" "[Ljava/lang/Object;" .null) :
    Ctr NW EL0 n0 Z [a] l (⟨"java/util/AbstractList", "<init>", "()V"⟩ : MethodName) jdk_39_method_1_code 1 none ({ frames := 2, cells := 0, slots := 0, locals := 24 } : Room) #[.ref a] h0 (RN fun h => Keep h0 h [a] ∧ Exa Z h a "java/util/ArrayList" ∧ Fld Z h a "java/util/AbstractList" "modCount" "I" (.int 0) ∧ Fld Z h a "java/util/ArrayList" "size" "I" (.int 0) ∧ Fld Z h a "java/util/ArrayList" "elementData" "[Ljava/lang/Object;" .null) := by
  refine Ctr.body (plainFor_of_name pn_6) hE hO (fun z q => by cases List.mem_singleton.mp q; exact ⟨ha, E_a.lt⟩) (L0 := #[.val (.ref a)]) (fun m => by first | (simp [entryFrame, mkF, argsToLocals, Value.category, maxLocals]; done) | rfl) ?_
  intro p e s m below meth c T0 W0
  refine Go.aload_n W0.cx d_jdk_39_method_1_0 (v := (.ref a)) rfl rfl ?_
  refine Go.invi W0 (Ctr.call (wt := 0) (c_aci l Z a0 hw hE W0.old a) W0.ew (wd hw 65 rfl) (wd hw 64 rfl) (by simp) (by decide) (by decide)) d_jdk_39_method_1_1 rfl (wd hw 60 rfl) (wd hw 61 rfl) (wd hw 65 rfl) (by decide) pd_16 rfl rfl (rest := []) rfl (Nat.le_of_eq rfl) (cells' := 0) (slots' := 0) rfl rfl (by decide) (by decide) ?_
  rintro T1 h1 W1 z1 e1
  subst e1
  refine Go.aload_n W1.cx d_jdk_39_method_1_4 (v := (.ref a)) rfl rfl ?_
  refine Go.iconst W1.cx d_jdk_39_method_1_5 (z := (0 : Int32)) rfl ?_
  refine Go.putf W1 d_jdk_39_method_1_6 (wd hw 67 rfl) Via.refl Fm E_a (Or.inl (wd hw 68 rfl)) (wd hw 49 rfl) (t := .int) (by decide) (v' := (.int 0)) rfl rfl (by simp) ?_
  intro T2 h2 W2 R2
  exact Go.vret W2 d_jdk_39_method_1_9 (by decide) (by decide) ⟨rfl, (Keep.refl h0 [a]).wr R2 (Or.inl (by simp)), E_a.wr R2, Fm.same R2, Fs.other R2 (Or.inr (slot_ne (Or.inl (wd hw 184 rfl)) (Or.inl (wd hw 68 rfl)) (by decide) (t := .int) (t' := .int) (by decide) (by decide))), Fe.other R2 (Or.inr (slot_ne (Or.inl (wd hw 71 rfl)) (Or.inl (wd hw 68 rfl)) (by decide) (t := (.array (.object "java/lang/Object"))) (t' := .int) (by decide) (by decide)))⟩
theorem pn_7 : plainName "java/util/ArrayList" = true := by first | (simp [plainName, overriddenIn]; done) | decide +kernel
theorem d_jdk_38_method_2_0 : Dec jdk_38_method_2_code 0 (.aload_n 0) 1 1 := ⟨by decide +kernel, rfl⟩
theorem d_jdk_38_method_2_1 : Dec jdk_38_method_2_code 1 (.invokespecial 1) 3 4 := ⟨by decide +kernel, rfl⟩
theorem d_jdk_38_method_2_4 : Dec jdk_38_method_2_code 4 (.aload_n 0) 1 5 := ⟨by decide +kernel, rfl⟩
theorem d_jdk_38_method_2_5 : Dec jdk_38_method_2_code 5 (.getstatic 39) 3 8 := ⟨by decide +kernel, rfl⟩
theorem d_jdk_38_method_2_8 : Dec jdk_38_method_2_code 8 (.putfield 9) 3 11 := ⟨by decide +kernel, rfl⟩
theorem d_jdk_38_method_2_11 : Dec jdk_38_method_2_code 11 (.return_) 1 12 := ⟨by decide +kernel, rfl⟩
set_option maxRecDepth 65536 in
set_option maxHeartbeats 40000000 in
theorem c_ali (l : Launch) (Z : State) (a0 : Array Value) (hw : ∀ d ∈ tables_1, d.before a0 Z = true) (hE : EW Z a0 EL0) {n0 : Nat} {h0 : Heap} (hO : Old Z n0 h0) {a : Addr} (ha : n0 ≤ a) (E_a : Exa Z h0 a "java/util/ArrayList") (Fm : Fld Z h0 a "java/util/AbstractList" "modCount" "I" (.int 0)) (Fs : Fld Z h0 a "java/util/ArrayList" "size" "I" (.int 0)) (Fe : Fld Z h0 a "java/util/ArrayList" "elementData" "[Ljava/lang/Object;" .null) {D : Addr} (hD : DF Z D) :
    Ctr NW EL0 n0 Z [a] l (⟨"java/util/ArrayList", "<init>", "()V"⟩ : MethodName) jdk_38_method_2_code 1 none ({ frames := 3, cells := 0, slots := 0, locals := 36 } : Room) #[.ref a] h0 (RN fun h => Keep h0 h [a] ∧ Exa Z h a "java/util/ArrayList" ∧ Fld Z h a "java/util/AbstractList" "modCount" "I" (.int 0) ∧ Fld Z h a "java/util/ArrayList" "size" "I" (.int 0) ∧ Fld Z h a "java/util/ArrayList" "elementData" "[Ljava/lang/Object;" (.ref D)) := by
  refine Ctr.body (plainFor_of_name pn_7) hE hO (fun z q => by cases List.mem_singleton.mp q; exact ⟨ha, E_a.lt⟩) (L0 := #[.val (.ref a)]) (fun m => by first | (simp [entryFrame, mkF, argsToLocals, Value.category, maxLocals]; done) | rfl) ?_
  intro p e s m below meth c T0 W0
  obtain ⟨SD, OD⟩ := id hD
  refine Go.aload_n W0.cx d_jdk_38_method_2_0 (v := (.ref a)) rfl rfl ?_
  refine Go.invi W0 (Ctr.call (wt := 0) (c_abl l Z a0 hw hE W0.old ha E_a Fm Fs Fe) W0.ew (wd hw 59 rfl) (wd hw 58 rfl) (by simp) (by decide) (by decide)) d_jdk_38_method_2_1 rfl (wd hw 54 rfl) (wd hw 55 rfl) (wd hw 59 rfl) (by decide) pd_16 rfl rfl (rest := []) rfl (Nat.le_of_eq rfl) (cells' := 0) (slots' := 0) rfl rfl (by decide) (by decide) ?_
  rintro T1 h1 W1 z1 ⟨K1, X1, Fm1, Fs1, Fe1⟩
  refine Go.aload_n W1.cx d_jdk_38_method_2_4 (v := (.ref a)) rfl rfl ?_
  refine Go.gets W1 d_jdk_38_method_2_5 (wd hw 69 rfl) Via.refl SD ?_
  intro T2 W2
  refine Go.putf W2 d_jdk_38_method_2_8 (wd hw 70 rfl) Via.refl Fe1 X1 (Or.inl (wd hw 71 rfl)) (wd hw 49 rfl) (t := (.array (.object "java/lang/Object"))) (by decide) (v' := (.ref D)) rfl rfl (by simp) ?_
  intro T3 h3 W3 R3
  exact Go.vret W3 d_jdk_38_method_2_11 (by decide) (by decide) ⟨rfl, K1.wr R3 (Or.inl (by simp)), X1.wr R3, Fm1.other R3 (Or.inr (slot_ne (Or.inl (wd hw 68 rfl)) (Or.inl (wd hw 71 rfl)) (by decide) (t := .int) (t' := (.array (.object "java/lang/Object"))) (by decide) (by decide))), Fs1.other R3 (Or.inr (slot_ne (Or.inl (wd hw 184 rfl)) (Or.inl (wd hw 71 rfl)) (by decide) (t := .int) (t' := (.array (.object "java/lang/Object"))) (by decide) (by decide))), Fe1.same R3⟩
theorem d_jdk_29_method_65_0 : Dec jdk_29_method_65_code 0 (.iload_n 0) 1 1 := ⟨by decide +kernel, rfl⟩
theorem d_jdk_29_method_65_1 : Dec jdk_29_method_65_code 1 (.iload_n 1) 1 2 := ⟨by decide +kernel, rfl⟩
theorem d_jdk_29_method_65_2 : Dec jdk_29_method_65_code 2 (.if_icmp .lt 7) 3 5 := ⟨by decide +kernel, rfl⟩
theorem d_jdk_29_method_65_5 : Dec jdk_29_method_65_code 5 (.iload_n 0) 1 6 := ⟨by decide +kernel, rfl⟩
theorem d_jdk_29_method_65_6 : Dec jdk_29_method_65_code 6 (.goto 4) 3 9 := ⟨by decide +kernel, rfl⟩
theorem d_jdk_29_method_65_10 : Dec jdk_29_method_65_code 10 (.ireturn) 1 11 := ⟨by decide +kernel, rfl⟩
set_option maxRecDepth 65536 in
set_option maxHeartbeats 40000000 in
theorem c_max2 (l : Launch) (Z : State) (a0 : Array Value) (hw : ∀ d ∈ tables_1, d.before a0 Z = true) (hE : EW Z a0 EL0) {n0 : Nat} {h0 : Heap} (hO : Old Z n0 h0) {x y : Int32} (hxy : ¬ x < y) :
    Ctr NW EL0 n0 Z [] l (⟨"java/lang/Math", "max", "(II)I"⟩ : MethodName) jdk_29_method_65_code 2 (some .int) ({ frames := 0, cells := 0, slots := 0, locals := 0 } : Room) #[.int x, .int y] h0 (RV fun w h => w = .int x ∧ h0 = h) := by
  refine Ctr.body (by decide +kernel) hE hO (fun x q => nomatch q) (L0 := #[.val (.int x), .val (.int y)]) (fun m => by first | (simp [entryFrame, mkF, argsToLocals, Value.category, maxLocals]; done) | rfl) ?_
  intro p e s m below meth c T0 W0
  refine Go.iload_n W0.cx d_jdk_29_method_65_0 (v := x) rfl ?_
  refine Go.iload_n W0.cx d_jdk_29_method_65_1 (v := y) rfl ?_
  refine Go.iclt W0.cx d_jdk_29_method_65_2 (by decide) (q := 9) rfl (fun hh => (by first | exact absurd hxy hh | exact absurd hh hxy)) (fun _ => ?_)
  refine Go.iload_n W0.cx d_jdk_29_method_65_5 (v := x) rfl ?_
  refine Go.goto W0.cx d_jdk_29_method_65_6 (by decide) (q := 10) rfl ?_
  exact Go.iret W0 d_jdk_29_method_65_10 (by simp) rfl (by decide) (by decide) ⟨_, rfl, rfl, rfl⟩
theorem d_jdk_38_method_6_0 : Dec jdk_38_method_6_code 0 (.aload_n 0) 1 1 := ⟨by decide +kernel, rfl⟩
theorem d_jdk_38_method_6_1 : Dec jdk_38_method_6_code 1 (.getfield 9) 3 4 := ⟨by decide +kernel, rfl⟩
theorem d_jdk_38_method_6_4 : Dec jdk_38_method_6_code 4 (.arraylength) 1 5 := ⟨by decide +kernel, rfl⟩
theorem d_jdk_38_method_6_5 : Dec jdk_38_method_6_code 5 (.istore_n 2) 1 6 := ⟨by decide +kernel, rfl⟩
theorem d_jdk_38_method_6_6 : Dec jdk_38_method_6_code 6 (.iload_n 2) 1 7 := ⟨by decide +kernel, rfl⟩
theorem d_jdk_38_method_6_7 : Dec jdk_38_method_6_code 7 (.ifCond .gt 13) 3 10 := ⟨by decide +kernel, rfl⟩
theorem d_jdk_38_method_6_10 : Dec jdk_38_method_6_code 10 (.aload_n 0) 1 11 := ⟨by decide +kernel, rfl⟩
theorem d_jdk_38_method_6_11 : Dec jdk_38_method_6_code 11 (.getfield 9) 3 14 := ⟨by decide +kernel, rfl⟩
theorem d_jdk_38_method_6_14 : Dec jdk_38_method_6_code 14 (.getstatic 39) 3 17 := ⟨by decide +kernel, rfl⟩
theorem d_jdk_38_method_6_17 : Dec jdk_38_method_6_code 17 (.if_acmp .eq 28) 3 20 := ⟨by decide +kernel, rfl⟩
theorem d_jdk_38_method_6_45 : Dec jdk_38_method_6_code 45 (.aload_n 0) 1 46 := ⟨by decide +kernel, rfl⟩
theorem d_jdk_38_method_6_46 : Dec jdk_38_method_6_code 46 (.bipush 10) 2 48 := ⟨by decide +kernel, rfl⟩
theorem d_jdk_38_method_6_48 : Dec jdk_38_method_6_code 48 (.iload_n 1) 1 49 := ⟨by decide +kernel, rfl⟩
theorem d_jdk_38_method_6_49 : Dec jdk_38_method_6_code 49 (.invokestatic 79) 3 52 := ⟨by decide +kernel, rfl⟩
theorem d_jdk_38_method_6_52 : Dec jdk_38_method_6_code 52 (.anewarray 7) 3 55 := ⟨by decide +kernel, rfl⟩
theorem d_jdk_38_method_6_55 : Dec jdk_38_method_6_code 55 (.dup_x1) 1 56 := ⟨by decide +kernel, rfl⟩
theorem d_jdk_38_method_6_56 : Dec jdk_38_method_6_code 56 (.putfield 9) 3 59 := ⟨by decide +kernel, rfl⟩
theorem d_jdk_38_method_6_59 : Dec jdk_38_method_6_code 59 (.areturn) 1 60 := ⟨by decide +kernel, rfl⟩
set_option maxRecDepth 65536 in
set_option maxHeartbeats 40000000 in
theorem c_gr1 (l : Launch) (Z : State) (a0 : Array Value) (hw : ∀ d ∈ tables_1, d.before a0 Z = true) (hE : EW Z a0 EL0) {n0 : Nat} {h0 : Heap} (hO : Old Z n0 h0) {D : Addr} (hD : DF Z D) {a : Addr} (ha : n0 ≤ a) (E_a : Exa Z h0 a "java/util/ArrayList") {mc : Int32} (Fm : Fld Z h0 a "java/util/AbstractList" "modCount" "I" (.int mc)) (Fs : Fld Z h0 a "java/util/ArrayList" "size" "I" (.int 0)) (Fe : Fld Z h0 a "java/util/ArrayList" "elementData" "[Ljava/lang/Object;" (.ref D)) :
    Ctr NW EL0 n0 Z [a] l (⟨"java/util/ArrayList", "grow", "(I)[Ljava/lang/Object;"⟩ : MethodName) jdk_38_method_6_code 4 (some (.array (.object "java/lang/Object"))) ({ frames := 1, cells := 1, slots := 10, locals := 16 } : Room) #[.ref a, .int (1 : Int32)] h0 (RV fun w h => ∃ d, w = .ref d ∧ h0.size ≤ d ∧ Keep h0 h [a] ∧ Exa Z h a "java/util/ArrayList" ∧ Fld Z h a "java/util/AbstractList" "modCount" "I" (.int mc) ∧ Fld Z h a "java/util/ArrayList" "size" "I" (.int 0) ∧ Fld Z h a "java/util/ArrayList" "elementData" "[Ljava/lang/Object;" (.ref d) ∧ OAw Z h d "java/lang/Object" "[Ljava/lang/Object;" (List.replicate 10 .null)) := by
  refine Ctr.body (plainFor_of_name pn_7) hE hO (fun z q => by cases List.mem_singleton.mp q; exact ⟨ha, E_a.lt⟩) (L0 := #[.val (.ref a), .val (.int (1 : Int32)), .unset, .unset]) (fun m => by first | (simp [entryFrame, mkF, argsToLocals, Value.category, maxLocals]; done) | rfl) ?_
  intro p e s m below meth c T0 W0
  obtain ⟨SD, OD⟩ := id hD
  refine Go.aload_n W0.cx d_jdk_38_method_6_0 (v := (.ref a)) rfl rfl ?_
  refine Go.getf W0 d_jdk_38_method_6_1 (wd hw 70 rfl) Via.refl Fe ?_
  intro T1 W1
  refine Go.alenN W1 d_jdk_38_method_6_4 (OD.ext hO.2) (z := (0 : Int32)) rfl ?_
  refine Go.istore_n W1.cx d_jdk_38_method_6_5 (L' := #[.val (.ref a), .val (.int (1 : Int32)), .val (.int (0 : Int32)), .unset]) rfl ?_
  refine Go.iload_n W1.cx d_jdk_38_method_6_6 (v := (0 : Int32)) rfl ?_
  refine Go.ifgt W1.cx d_jdk_38_method_6_7 (by decide) (q := 20) rfl (fun hh => (by first | exact absurd (by decide : ¬ (0 : Int32) < 0) hh | exact absurd hh (by decide : ¬ (0 : Int32) < 0))) (fun _ => ?_)
  refine Go.aload_n W1.cx d_jdk_38_method_6_10 (v := (.ref a)) rfl rfl ?_
  refine Go.getf W1 d_jdk_38_method_6_11 (wd hw 70 rfl) Via.refl Fe ?_
  intro T2 W2
  refine Go.gets W2 d_jdk_38_method_6_14 (wd hw 69 rfl) Via.refl SD ?_
  intro T3 W3
  refine Go.aceq W3.cx d_jdk_38_method_6_17 rfl rfl (by decide) (q := 45) rfl (fun _ => ?_) (fun hh => (by first | exact absurd (rfl : (Value.ref D) = .ref D) hh | exact absurd hh (rfl : (Value.ref D) = .ref D)))
  refine Go.aload_n W3.cx d_jdk_38_method_6_45 (v := (.ref a)) rfl rfl ?_
  refine Go.bipush W3.cx d_jdk_38_method_6_46 (z := (10 : Int32)) rfl ?_
  refine Go.iload_n W3.cx d_jdk_38_method_6_48 (v := (1 : Int32)) rfl ?_
  refine Go.invs1 W3 (Ctr.call (wt := 1) (c_max2 l Z a0 hw hE W3.old (x := 10) (y := 1) (by decide)) W3.ew (wd hw 202 rfl) (wd hw 132 rfl) (by simp) (by decide) (by decide)) d_jdk_38_method_6_49 (wd hw 200 rfl) (wd hw 201 rfl) (wd hw 132 rfl) (wd hw 202 rfl) (by decide) pd_4 rfl rfl (rest := [(.ref a)]) rfl (Nat.le_of_eq rfl) (cells' := 0) (slots' := 0) rfl rfl (by decide) (by decide) ?_
  rintro T4 h4 _ W4 z4 ⟨rfl, e4⟩
  subst e4
  refine Go.newobjs W4 10 d_jdk_38_method_6_52 (wd hw 203 rfl) (wd hw 204 rfl) rfl (by decide) (cells' := 1) (slots' := 10) rfl rfl (by decide) (by decide) (ad := "[Ljava/lang/Object;") (by decide) ?_
  intro T5 h5 a5 g5 W5 E5 O5
  have E_b := E_a.ext E5
  have hne := ne_ge3 E_a.lt (Nat.le_of_eq g5.symm)
  refine Go.dup_x1 W5.cx d_jdk_38_method_6_55 rfl rfl ?_
  refine Go.putf W5 d_jdk_38_method_6_56 (wd hw 70 rfl) Via.refl (Fe.ext E5) E_b (Or.inl (wd hw 71 rfl)) (wd hw 49 rfl) (t := (.array (.object "java/lang/Object"))) (by decide) (v' := (.ref a5)) rfl rfl (by simp) ?_
  intro T6 h6 W6 R6
  exact Go.aret W6 d_jdk_38_method_6_59 rfl rfl rfl (by decide) (by decide) ⟨_, rfl, _, rfl, Nat.le_of_eq g5.symm, ((Keep.refl h0 [a]).ext E5).wr R6 (Or.inl (by simp)), E_b.wr R6, (Fm.ext E5).other R6 (Or.inr (slot_ne (Or.inl (wd hw 68 rfl)) (Or.inl (wd hw 71 rfl)) (by decide) (t := .int) (t' := (.array (.object "java/lang/Object"))) (by decide) (by decide))), (Fs.ext E5).other R6 (Or.inr (slot_ne (Or.inl (wd hw 184 rfl)) (Or.inl (wd hw 71 rfl)) (by decide) (t := .int) (t' := (.array (.object "java/lang/Object"))) (by decide) (by decide))), (Fe.ext E5).same R6, O5.other R6 hne⟩
theorem d_jdk_38_method_7_0 : Dec jdk_38_method_7_code 0 (.aload_n 0) 1 1 := ⟨by decide +kernel, rfl⟩
theorem d_jdk_38_method_7_1 : Dec jdk_38_method_7_code 1 (.aload_n 0) 1 2 := ⟨by decide +kernel, rfl⟩
theorem d_jdk_38_method_7_2 : Dec jdk_38_method_7_code 2 (.getfield 48) 3 5 := ⟨by decide +kernel, rfl⟩
theorem d_jdk_38_method_7_5 : Dec jdk_38_method_7_code 5 (.iconst 1) 1 6 := ⟨by decide +kernel, rfl⟩
theorem d_jdk_38_method_7_6 : Dec jdk_38_method_7_code 6 (.iadd) 1 7 := ⟨by decide +kernel, rfl⟩
theorem d_jdk_38_method_7_7 : Dec jdk_38_method_7_code 7 (.invokevirtual 69) 3 10 := ⟨by decide +kernel, rfl⟩
theorem pd_17 : parseMethodDescriptor "(I)[Ljava/lang/Object;" = some ⟨[.int], some (.array (.object "java/lang/Object"))⟩ := by decide +kernel
theorem d_jdk_38_method_7_10 : Dec jdk_38_method_7_code 10 (.areturn) 1 11 := ⟨by decide +kernel, rfl⟩
set_option maxRecDepth 65536 in
set_option maxHeartbeats 40000000 in
theorem c_gr0 (l : Launch) (Z : State) (a0 : Array Value) (hw : ∀ d ∈ tables_1, d.before a0 Z = true) (hE : EW Z a0 EL0) {n0 : Nat} {h0 : Heap} (hO : Old Z n0 h0) {D : Addr} (hD : DF Z D) {a : Addr} (ha : n0 ≤ a) (E_a : Exa Z h0 a "java/util/ArrayList") {mc : Int32} (Fm : Fld Z h0 a "java/util/AbstractList" "modCount" "I" (.int mc)) (Fs : Fld Z h0 a "java/util/ArrayList" "size" "I" (.int 0)) (Fe : Fld Z h0 a "java/util/ArrayList" "elementData" "[Ljava/lang/Object;" (.ref D)) :
    Ctr NW EL0 n0 Z [a] l (⟨"java/util/ArrayList", "grow", "()[Ljava/lang/Object;"⟩ : MethodName) jdk_38_method_7_code 1 (some (.array (.object "java/lang/Object"))) ({ frames := 2, cells := 1, slots := 10, locals := 31 } : Room) #[.ref a] h0 (RV fun w h => ∃ d, w = .ref d ∧ h0.size ≤ d ∧ Keep h0 h [a] ∧ Exa Z h a "java/util/ArrayList" ∧ Fld Z h a "java/util/AbstractList" "modCount" "I" (.int mc) ∧ Fld Z h a "java/util/ArrayList" "size" "I" (.int 0) ∧ Fld Z h a "java/util/ArrayList" "elementData" "[Ljava/lang/Object;" (.ref d) ∧ OAw Z h d "java/lang/Object" "[Ljava/lang/Object;" (List.replicate 10 .null)) := by
  refine Ctr.body (plainFor_of_name pn_7) hE hO (fun z q => by cases List.mem_singleton.mp q; exact ⟨ha, E_a.lt⟩) (L0 := #[.val (.ref a)]) (fun m => by first | (simp [entryFrame, mkF, argsToLocals, Value.category, maxLocals]; done) | rfl) ?_
  intro p e s m below meth c T0 W0
  refine Go.aload_n W0.cx d_jdk_38_method_7_0 (v := (.ref a)) rfl rfl ?_
  refine Go.aload_n W0.cx d_jdk_38_method_7_1 (v := (.ref a)) rfl rfl ?_
  refine Go.getf W0 d_jdk_38_method_7_2 (wd hw 183 rfl) Via.refl Fs ?_
  intro T1 W1
  refine Go.iconst W1.cx d_jdk_38_method_7_5 (z := (1 : Int32)) rfl ?_
  refine Go.iadd W1.cx d_jdk_38_method_7_6 ?_
  refine Go.top (show _ = (1 : Int32) from rfl) ?_
  refine Go.invv1 W1 (Ctr.call (wt := 0) (c_gr1 l Z a0 hw hE W1.old hD ha E_a Fm Fs Fe) W1.ew (wd hw 199 rfl) (wd hw 50 rfl) (by simp) (by decide) (by decide)) d_jdk_38_method_7_7 (wd hw 195 rfl) (decl_of (wd hw 196 rfl) (wd hw 199 rfl)) (wd hw 198 rfl) (wd hw 196 rfl) (by decide) E_a pd_17 rfl rfl (rest := []) rfl (Nat.le_of_eq rfl) (cells' := 1) (slots' := 10) rfl rfl (by decide) (by decide) ?_
  rintro T2 h2 _ W2 z2 ⟨d2, rfl, H2⟩
  exact Go.aret W2 d_jdk_38_method_7_10 rfl rfl rfl (by decide) (by decide) ⟨_, rfl, _, rfl, H2⟩
theorem keep_new {h0 h1 h2 h3 : Heap} {a d : Addr} {sl : Nat} {v : Value} (K1 : Keep h0 h1 [a]) (K2 : Keep h1 h2 [d]) (R : Wr h2 h3 a sl v) (g : h0.size ≤ d) : Keep h0 h3 [a] := by
  refine Keep.wr ?_ R (Or.inl (by simp))
  refine ⟨Nat.le_trans K1.1 K2.1, fun x c q hx => ?_, fun x c q => ?_⟩
  · have hlt : x < h0.size := (Array.getElem?_eq_some_iff.mp q).1
    exact K2.2.1 x c (K1.2.1 x c q hx) (fun z => by rw [List.mem_singleton.mp z] at hlt; exact absurd hlt (Nat.not_lt.mpr g))
  · obtain ⟨c1, q1, r1, r2, r3⟩ := K1.2.2 x c q
    obtain ⟨c2, q2, s1, s2, s3⟩ := K2.2.2 x c1 q1
    exact ⟨c2, q2, s1.trans r1, s2.trans r2, s3.trans r3⟩
theorem d_jdk_38_method_24_0 : Dec jdk_38_method_24_code 0 (.iload_n 3) 1 1 := ⟨by decide +kernel, rfl⟩
theorem d_jdk_38_method_24_1 : Dec jdk_38_method_24_code 1 (.aload_n 2) 1 2 := ⟨by decide +kernel, rfl⟩
theorem d_jdk_38_method_24_2 : Dec jdk_38_method_24_code 2 (.arraylength) 1 3 := ⟨by decide +kernel, rfl⟩
theorem d_jdk_38_method_24_3 : Dec jdk_38_method_24_code 3 (.if_icmp .ne 8) 3 6 := ⟨by decide +kernel, rfl⟩
theorem d_jdk_38_method_24_6 : Dec jdk_38_method_24_code 6 (.aload_n 0) 1 7 := ⟨by decide +kernel, rfl⟩
theorem d_jdk_38_method_24_7 : Dec jdk_38_method_24_code 7 (.invokevirtual 129) 3 10 := ⟨by decide +kernel, rfl⟩
theorem pd_18 : parseMethodDescriptor "()[Ljava/lang/Object;" = some ⟨[], some (.array (.object "java/lang/Object"))⟩ := by decide +kernel
theorem d_jdk_38_method_24_10 : Dec jdk_38_method_24_code 10 (.astore_n 2) 1 11 := ⟨by decide +kernel, rfl⟩
theorem d_jdk_38_method_24_11 : Dec jdk_38_method_24_code 11 (.aload_n 2) 1 12 := ⟨by decide +kernel, rfl⟩
theorem d_jdk_38_method_24_12 : Dec jdk_38_method_24_code 12 (.iload_n 3) 1 13 := ⟨by decide +kernel, rfl⟩
theorem d_jdk_38_method_24_13 : Dec jdk_38_method_24_code 13 (.aload_n 1) 1 14 := ⟨by decide +kernel, rfl⟩
theorem d_jdk_38_method_24_14 : Dec jdk_38_method_24_code 14 (.aastore) 1 15 := ⟨by decide +kernel, rfl⟩
theorem d_jdk_38_method_24_15 : Dec jdk_38_method_24_code 15 (.aload_n 0) 1 16 := ⟨by decide +kernel, rfl⟩
theorem d_jdk_38_method_24_16 : Dec jdk_38_method_24_code 16 (.iload_n 3) 1 17 := ⟨by decide +kernel, rfl⟩
theorem d_jdk_38_method_24_17 : Dec jdk_38_method_24_code 17 (.iconst 1) 1 18 := ⟨by decide +kernel, rfl⟩
theorem d_jdk_38_method_24_18 : Dec jdk_38_method_24_code 18 (.iadd) 1 19 := ⟨by decide +kernel, rfl⟩
theorem d_jdk_38_method_24_19 : Dec jdk_38_method_24_code 19 (.putfield 48) 3 22 := ⟨by decide +kernel, rfl⟩
theorem d_jdk_38_method_24_22 : Dec jdk_38_method_24_code 22 (.return_) 1 23 := ⟨by decide +kernel, rfl⟩
set_option maxRecDepth 65536 in
set_option maxHeartbeats 40000000 in
theorem c_ad3a (l : Launch) (Z : State) (a0 : Array Value) (hw : ∀ d ∈ tables_1, d.before a0 Z = true) (hE : EW Z a0 EL0) {n0 : Nat} {h0 : Heap} (hO : Old Z n0 h0) {D : Addr} (hD : DF Z D) {a : Addr} (ha : n0 ≤ a) (E_a : Exa Z h0 a "java/util/ArrayList") {mc : Int32} (Fm : Fld Z h0 a "java/util/AbstractList" "modCount" "I" (.int mc)) (Fs : Fld Z h0 a "java/util/ArrayList" "size" "I" (.int 0)) (Fe : Fld Z h0 a "java/util/ArrayList" "elementData" "[Ljava/lang/Object;" (.ref D)) {v : Addr} (E_v : Exa Z h0 v "java/lang/String") :
    Ctr NW EL0 n0 Z [a] l (⟨"java/util/ArrayList", "add", "(Ljava/lang/Object;[Ljava/lang/Object;I)V"⟩ : MethodName) jdk_38_method_24_code 4 none ({ frames := 3, cells := 1, slots := 10, locals := 43 } : Room) #[.ref a, .ref v, .ref D, .int (0 : Int32)] h0 (RN fun h => ∃ d, h0.size ≤ d ∧ Keep h0 h [a] ∧ AL1 Z h a d 1 ((List.replicate 10 .null).set 0 (.ref v))) := by
  refine Ctr.body (plainFor_of_name pn_7) hE hO (fun z q => by cases List.mem_singleton.mp q; exact ⟨ha, E_a.lt⟩) (L0 := #[.val (.ref a), .val (.ref v), .val (.ref D), .val (.int (0 : Int32))]) (fun m => by first | (simp [entryFrame, mkF, argsToLocals, Value.category, maxLocals]; done) | rfl) ?_
  intro p e s m below meth c T0 W0
  obtain ⟨SD, OD⟩ := id hD
  refine Go.iload_n W0.cx d_jdk_38_method_24_0 (v := (0 : Int32)) rfl ?_
  refine Go.aload_n W0.cx d_jdk_38_method_24_1 (v := (.ref D)) rfl rfl ?_
  refine Go.alenN W0 d_jdk_38_method_24_2 (OD.ext hO.2) (z := (0 : Int32)) rfl ?_
  refine Go.icne W0.cx d_jdk_38_method_24_3 (by decide) (q := 11) rfl (fun hh => (by first | exact absurd (rfl : (0 : Int32) = 0) hh | exact absurd hh (rfl : (0 : Int32) = 0))) (fun _ => ?_)
  refine Go.aload_n W0.cx d_jdk_38_method_24_6 (v := (.ref a)) rfl rfl ?_
  refine Go.invv1 W0 (Ctr.call (wt := 0) (c_gr0 l Z a0 hw hE W0.old hD ha E_a Fm Fs Fe) W0.ew (wd hw 194 rfl) (wd hw 50 rfl) (by simp) (by decide) (by decide)) d_jdk_38_method_24_7 (wd hw 190 rfl) (decl_of (wd hw 191 rfl) (wd hw 194 rfl)) (wd hw 193 rfl) (wd hw 191 rfl) (by decide) E_a pd_18 rfl rfl (rest := []) rfl (Nat.le_of_eq rfl) (cells' := 1) (slots' := 10) rfl rfl (by decide) (by decide) ?_
  rintro T1 h1 _ W1 z1 ⟨d1, rfl, l1, K1, X1, Fm1, Fs1, Fe1, O1⟩
  have W19 := W1.oar O1 (Nat.le_trans (old_le hO) l1) (hTo hw rfl)
  have hne := ne_ge3 E_a.lt l1
  refine Go.astore_n W19.cx d_jdk_38_method_24_10 (L' := #[.val (.ref a), .val (.ref v), .val (.ref d1), .val (.int (0 : Int32))]) rfl rfl ?_
  refine Go.aload_n W19.cx d_jdk_38_method_24_11 (v := (.ref d1)) rfl rfl ?_
  refine Go.iload_n W19.cx d_jdk_38_method_24_12 (v := (0 : Int32)) rfl ?_
  refine Go.aload_n W19.cx d_jdk_38_method_24_13 (v := (.ref v)) rfl rfl ?_
  refine Go.aastore W19 0 d_jdk_38_method_24_14 O1 (by simp) rfl (by decide) (by decide) (Ins.of_exa (E_v.keep K1) (wd hw 205 rfl)) ?_
  intro T2 h2 W2 K2 O2
  have E_2 := X1.keep K2
  have Fm2 := Fm1.keep K2 (fun z => hne (List.mem_singleton.mp z).symm)
  have Fs2 := Fs1.keep K2 (fun z => hne (List.mem_singleton.mp z).symm)
  have Fe2 := Fe1.keep K2 (fun z => hne (List.mem_singleton.mp z).symm)
  refine Go.aload_n W2.cx d_jdk_38_method_24_15 (v := (.ref a)) rfl rfl ?_
  refine Go.iload_n W2.cx d_jdk_38_method_24_16 (v := (0 : Int32)) rfl ?_
  refine Go.iconst W2.cx d_jdk_38_method_24_17 (z := (1 : Int32)) rfl ?_
  refine Go.iadd W2.cx d_jdk_38_method_24_18 ?_
  refine Go.top (show _ = Int32.ofNat 1 from rfl) ?_
  refine Go.putf W2 d_jdk_38_method_24_19 (wd hw 183 rfl) Via.refl Fs2 E_2 (Or.inl (wd hw 184 rfl)) (wd hw 49 rfl) (t := .int) (by decide) (v' := (.int (Int32.ofNat 1))) rfl rfl (by simp) ?_
  intro T3 h3 W3 R3
  exact Go.vret W3 d_jdk_38_method_24_22 (by decide) (by decide) ⟨rfl, d1, l1, keep_new K1 K2 R3 l1, E_2.wr R3, ⟨_, Fm2.other R3 (Or.inr (slot_ne (Or.inl (wd hw 68 rfl)) (Or.inl (wd hw 184 rfl)) (by decide) (t := .int) (t' := .int) (by decide) (by decide)))⟩, Fs2.same R3, Fe2.other R3 (Or.inr (slot_ne (Or.inl (wd hw 71 rfl)) (Or.inl (wd hw 184 rfl)) (by decide) (t := (.array (.object "java/lang/Object"))) (t' := .int) (by decide) (by decide))), O2.other R3 hne, rfl, hne⟩
theorem keep_wr {h0 h1 h2 : Heap} {a : Addr} {ws : List Addr} {sl : Nat} {v : Value} (R : Wr h0 h1 a sl v) (K : Keep h1 h2 (a :: ws)) : Keep h0 h2 (a :: ws) := by
  have K0 := Keep.of_wr R
  refine ⟨Nat.le_trans K0.1 K.1, fun x c q hx => K.2.1 x c (K0.2.1 x c q (fun z => hx (by rw [List.mem_singleton.mp z]; simp))) hx, fun x c q => ?_⟩
  obtain ⟨c1, q1, r1, r2, r3⟩ := K0.2.2 x c q
  obtain ⟨c2, q2, s1, s2, s3⟩ := K.2.2 x c1 q1
  exact ⟨c2, q2, s1.trans r1, s2.trans r2, s3.trans r3⟩
theorem d_jdk_38_method_25_0 : Dec jdk_38_method_25_code 0 (.aload_n 0) 1 1 := ⟨by decide +kernel, rfl⟩
theorem d_jdk_38_method_25_1 : Dec jdk_38_method_25_code 1 (.dup) 1 2 := ⟨by decide +kernel, rfl⟩
theorem d_jdk_38_method_25_2 : Dec jdk_38_method_25_code 2 (.getfield 63) 3 5 := ⟨by decide +kernel, rfl⟩
theorem d_jdk_38_method_25_5 : Dec jdk_38_method_25_code 5 (.iconst 1) 1 6 := ⟨by decide +kernel, rfl⟩
theorem d_jdk_38_method_25_6 : Dec jdk_38_method_25_code 6 (.iadd) 1 7 := ⟨by decide +kernel, rfl⟩
theorem d_jdk_38_method_25_7 : Dec jdk_38_method_25_code 7 (.putfield 63) 3 10 := ⟨by decide +kernel, rfl⟩
theorem d_jdk_38_method_25_10 : Dec jdk_38_method_25_code 10 (.aload_n 0) 1 11 := ⟨by decide +kernel, rfl⟩
theorem d_jdk_38_method_25_11 : Dec jdk_38_method_25_code 11 (.aload_n 1) 1 12 := ⟨by decide +kernel, rfl⟩
theorem d_jdk_38_method_25_12 : Dec jdk_38_method_25_code 12 (.aload_n 0) 1 13 := ⟨by decide +kernel, rfl⟩
theorem d_jdk_38_method_25_13 : Dec jdk_38_method_25_code 13 (.getfield 9) 3 16 := ⟨by decide +kernel, rfl⟩
theorem d_jdk_38_method_25_16 : Dec jdk_38_method_25_code 16 (.aload_n 0) 1 17 := ⟨by decide +kernel, rfl⟩
theorem d_jdk_38_method_25_17 : Dec jdk_38_method_25_code 17 (.getfield 48) 3 20 := ⟨by decide +kernel, rfl⟩
theorem d_jdk_38_method_25_20 : Dec jdk_38_method_25_code 20 (.invokevirtual 131) 3 23 := ⟨by decide +kernel, rfl⟩
theorem pd_19 : parseMethodDescriptor "(Ljava/lang/Object;[Ljava/lang/Object;I)V" = some ⟨[(.object "java/lang/Object"), (.array (.object "java/lang/Object")), .int], none⟩ := by decide +kernel
theorem d_jdk_38_method_25_23 : Dec jdk_38_method_25_code 23 (.iconst 1) 1 24 := ⟨by decide +kernel, rfl⟩
theorem d_jdk_38_method_25_24 : Dec jdk_38_method_25_code 24 (.ireturn) 1 25 := ⟨by decide +kernel, rfl⟩
set_option maxRecDepth 65536 in
set_option maxHeartbeats 40000000 in
theorem c_ad1 (l : Launch) (Z : State) (a0 : Array Value) (hw : ∀ d ∈ tables_1, d.before a0 Z = true) (hE : EW Z a0 EL0) {n0 : Nat} {h0 : Heap} (hO : Old Z n0 h0) {D : Addr} (hD : DF Z D) {a : Addr} (ha : n0 ≤ a) (E_a : Exa Z h0 a "java/util/ArrayList") {mc : Int32} (Fm : Fld Z h0 a "java/util/AbstractList" "modCount" "I" (.int mc)) (Fs : Fld Z h0 a "java/util/ArrayList" "size" "I" (.int 0)) (Fe : Fld Z h0 a "java/util/ArrayList" "elementData" "[Ljava/lang/Object;" (.ref D)) {v : Addr} (E_v : Exa Z h0 v "java/lang/String") :
    Ctr NW EL0 n0 Z [a] l (⟨"java/util/ArrayList", "add", "(Ljava/lang/Object;)Z"⟩ : MethodName) jdk_38_method_25_code 2 (some .boolean) ({ frames := 4, cells := 1, slots := 10, locals := 60 } : Room) #[.ref a, .ref v] h0 (RV fun w h => w = .int 1 ∧ ∃ d, h0.size ≤ d ∧ Keep h0 h [a] ∧ AL1 Z h a d 1 ((List.replicate 10 .null).set 0 (.ref v))) := by
  refine Ctr.body (plainFor_of_name pn_7) hE hO (fun z q => by cases List.mem_singleton.mp q; exact ⟨ha, E_a.lt⟩) (L0 := #[.val (.ref a), .val (.ref v)]) (fun m => by first | (simp [entryFrame, mkF, argsToLocals, Value.category, maxLocals]; done) | rfl) ?_
  intro p e s m below meth c T0 W0
  refine Go.aload_n W0.cx d_jdk_38_method_25_0 (v := (.ref a)) rfl rfl ?_
  refine Go.dup W0.cx d_jdk_38_method_25_1 rfl ?_
  refine Go.getf W0 d_jdk_38_method_25_2 (wd hw 181 rfl) (Via.of (wd hw 182 rfl)) Fm ?_
  intro T1 W1
  refine Go.iconst W1.cx d_jdk_38_method_25_5 (z := (1 : Int32)) rfl ?_
  refine Go.iadd W1.cx d_jdk_38_method_25_6 ?_
  refine Go.putf W1 d_jdk_38_method_25_7 (wd hw 181 rfl) (Via.of (wd hw 182 rfl)) Fm E_a (Or.inl (wd hw 68 rfl)) (wd hw 49 rfl) (t := .int) (by decide) (v' := (.int (mc + 1))) rfl rfl (by simp) ?_
  intro T2 h2 W2 R2
  have E_2 := E_a.wr R2
  have Fm2 := Fm.same R2
  have Fs2 := Fs.other R2 (Or.inr (slot_ne (Or.inl (wd hw 184 rfl)) (Or.inl (wd hw 68 rfl)) (by decide) (t := .int) (t' := .int) (by decide) (by decide)))
  have Fe2 := Fe.other R2 (Or.inr (slot_ne (Or.inl (wd hw 71 rfl)) (Or.inl (wd hw 68 rfl)) (by decide) (t := (.array (.object "java/lang/Object"))) (t' := .int) (by decide) (by decide)))
  have Ev2 := E_v.wr R2
  refine Go.aload_n W2.cx d_jdk_38_method_25_10 (v := (.ref a)) rfl rfl ?_
  refine Go.aload_n W2.cx d_jdk_38_method_25_11 (v := (.ref v)) rfl rfl ?_
  refine Go.aload_n W2.cx d_jdk_38_method_25_12 (v := (.ref a)) rfl rfl ?_
  refine Go.getf W2 d_jdk_38_method_25_13 (wd hw 70 rfl) Via.refl Fe2 ?_
  intro T3 W3
  refine Go.aload_n W3.cx d_jdk_38_method_25_16 (v := (.ref a)) rfl rfl ?_
  refine Go.getf W3 d_jdk_38_method_25_17 (wd hw 183 rfl) Via.refl Fs2 ?_
  intro T4 W4
  refine Go.invv0 W4 (Ctr.call (wt := 0) (c_ad3a l Z a0 hw hE W4.old hD ha E_2 Fm2 Fs2 Fe2 Ev2) W4.ew (wd hw 189 rfl) (wd hw 50 rfl) (by simp) (by decide) (by decide)) d_jdk_38_method_25_20 (wd hw 185 rfl) (decl_of (wd hw 186 rfl) (wd hw 189 rfl)) (wd hw 188 rfl) (wd hw 186 rfl) (by decide) E_2 pd_19 rfl rfl (rest := []) rfl (Nat.le_of_eq rfl) (cells' := 1) (slots' := 10) rfl rfl (by decide) (by decide) ?_
  rintro T5 h5 W5 z5 ⟨d5, l5, K5, B5⟩
  refine Go.iconst W5.cx d_jdk_38_method_25_23 (z := (1 : Int32)) rfl ?_
  exact Go.iret W5 d_jdk_38_method_25_24 (by simp) rfl (by decide) (by decide) ⟨_, rfl, rfl, d5, R2.size ▸ l5, keep_wr R2 K5, B5⟩
theorem keepMono {h0 h1 : Heap} {ws ws' : List Addr} (K : Keep h0 h1 ws) (q : ∀ x ∈ ws, x ∈ ws') : Keep h0 h1 ws' := ⟨K.1, fun x c h hx => K.2.1 x c h (fun z => hx (q x z)), K.2.2⟩
set_option maxRecDepth 65536 in
set_option maxHeartbeats 40000000 in
theorem c_ad3b (l : Launch) (Z : State) (a0 : Array Value) (hw : ∀ d ∈ tables_1, d.before a0 Z = true) (hE : EW Z a0 EL0) {n0 : Nat} {h0 : Heap} (hO : Old Z n0 h0) {a d : Addr} {n : Nat} {vs : List Value} (ha : n0 ≤ a) (hd : n0 ≤ d) (B : AL1 Z h0 a d n vs) (hn : n < 10) {v : Addr} (E_v : Exa Z h0 v "java/lang/String") :
    Ctr NW EL0 n0 Z [a, d] l (⟨"java/util/ArrayList", "add", "(Ljava/lang/Object;[Ljava/lang/Object;I)V"⟩ : MethodName) jdk_38_method_24_code 4 none ({ frames := 0, cells := 0, slots := 0, locals := 0 } : Room) #[.ref a, .ref v, .ref d, .int (Int32.ofNat n)] h0 (RN fun h => Keep h0 h [a, d] ∧ AL1 Z h a d (n + 1) (vs.set n (.ref v))) := by
  refine Ctr.body (plainFor_of_name pn_7) hE hO (fun z q => by rcases List.mem_cons.mp q with rfl | q; exact ⟨ha, B.1.lt⟩; cases List.mem_singleton.mp q; exact ⟨hd, B.2.2.2.2.1.lt⟩) (L0 := #[.val (.ref a), .val (.ref v), .val (.ref d), .val (.int (Int32.ofNat n))]) (fun m => by first | (simp [entryFrame, mkF, argsToLocals, Value.category, maxLocals]; done) | rfl) ?_
  intro p e s m below meth c T0 W0
  obtain ⟨E_a, ⟨mc, Fm⟩, Fs, Fe, OA, hvl, hne⟩ := id B
  refine Go.iload_n W0.cx d_jdk_38_method_24_0 (v := (Int32.ofNat n)) rfl ?_
  refine Go.aload_n W0.cx d_jdk_38_method_24_1 (v := (.ref d)) rfl rfl ?_
  refine Go.alenN W0 d_jdk_38_method_24_2 OA.oar (z := Int32.ofNat 10) (by rw [hvl]) ?_
  refine Go.icne W0.cx d_jdk_38_method_24_3 (by decide) (q := 11) rfl (fun _ => ?_) (fun hh => (by first | exact absurd (show ¬ Int32.ofNat n = Int32.ofNat 10 by rw [eq_nat (by omega) (by omega)]; omega) hh | exact absurd hh (show ¬ Int32.ofNat n = Int32.ofNat 10 by rw [eq_nat (by omega) (by omega)]; omega)))
  refine Go.aload_n W0.cx d_jdk_38_method_24_11 (v := (.ref d)) rfl rfl ?_
  refine Go.iload_n W0.cx d_jdk_38_method_24_12 (v := (Int32.ofNat n)) rfl ?_
  refine Go.aload_n W0.cx d_jdk_38_method_24_13 (v := (.ref v)) rfl rfl ?_
  refine Go.aastore W0 n d_jdk_38_method_24_14 OA (by simp) rfl (by omega) (by omega) (Ins.of_exa E_v (wd hw 205 rfl)) ?_
  intro T1 h1 W1 K1 O1
  have E_1 := E_a.keep K1
  have Fm1 := Fm.keep K1 (fun z => hne (List.mem_singleton.mp z).symm)
  have Fs1 := Fs.keep K1 (fun z => hne (List.mem_singleton.mp z).symm)
  have Fe1 := Fe.keep K1 (fun z => hne (List.mem_singleton.mp z).symm)
  refine Go.aload_n W1.cx d_jdk_38_method_24_15 (v := (.ref a)) rfl rfl ?_
  refine Go.iload_n W1.cx d_jdk_38_method_24_16 (v := (Int32.ofNat n)) rfl ?_
  refine Go.iconst W1.cx d_jdk_38_method_24_17 (z := (1 : Int32)) rfl ?_
  refine Go.iadd W1.cx d_jdk_38_method_24_18 ?_
  refine Go.top (add1_nat n) ?_
  refine Go.putf W1 d_jdk_38_method_24_19 (wd hw 183 rfl) Via.refl Fs1 E_1 (Or.inl (wd hw 184 rfl)) (wd hw 49 rfl) (t := .int) (by decide) (v' := (.int (Int32.ofNat (n + 1)))) rfl rfl (by simp) ?_
  intro T2 h2 W2 R2
  exact Go.vret W2 d_jdk_38_method_24_22 (by decide) (by decide) ⟨rfl, (keepMono K1 (by simp)).wr R2 (Or.inl (by simp)), E_1.wr R2, ⟨_, Fm1.other R2 (Or.inr (slot_ne (Or.inl (wd hw 68 rfl)) (Or.inl (wd hw 184 rfl)) (by decide) (t := .int) (t' := .int) (by decide) (by decide)))⟩, Fs1.same R2, Fe1.other R2 (Or.inr (slot_ne (Or.inl (wd hw 71 rfl)) (Or.inl (wd hw 184 rfl)) (by decide) (t := (.array (.object "java/lang/Object"))) (t' := .int) (by decide) (by decide))), O1.other R2 hne, by rw [List.length_set]; exact hvl, hne⟩
set_option maxRecDepth 65536 in
set_option maxHeartbeats 40000000 in
theorem c_ad2 (l : Launch) (Z : State) (a0 : Array Value) (hw : ∀ d ∈ tables_1, d.before a0 Z = true) (hE : EW Z a0 EL0) {n0 : Nat} {h0 : Heap} (hO : Old Z n0 h0) {a d : Addr} {n : Nat} {vs : List Value} (ha : n0 ≤ a) (hd : n0 ≤ d) (B : AL1 Z h0 a d n vs) (hn : n < 10) {v : Addr} (E_v : Exa Z h0 v "java/lang/String") :
    Ctr NW EL0 n0 Z [a, d] l (⟨"java/util/ArrayList", "add", "(Ljava/lang/Object;)Z"⟩ : MethodName) jdk_38_method_25_code 2 (some .boolean) ({ frames := 1, cells := 0, slots := 0, locals := 15 } : Room) #[.ref a, .ref v] h0 (RV fun w h => w = .int 1 ∧ Keep h0 h [a, d] ∧ AL1 Z h a d (n + 1) (vs.set n (.ref v))) := by
  refine Ctr.body (plainFor_of_name pn_7) hE hO (fun z q => by rcases List.mem_cons.mp q with rfl | q; exact ⟨ha, B.1.lt⟩; cases List.mem_singleton.mp q; exact ⟨hd, B.2.2.2.2.1.lt⟩) (L0 := #[.val (.ref a), .val (.ref v)]) (fun m => by first | (simp [entryFrame, mkF, argsToLocals, Value.category, maxLocals]; done) | rfl) ?_
  intro p e s m below meth c T0 W0
  obtain ⟨E_a, ⟨mc, Fm⟩, Fs, Fe, OA, hvl, hne⟩ := id B
  refine Go.aload_n W0.cx d_jdk_38_method_25_0 (v := (.ref a)) rfl rfl ?_
  refine Go.dup W0.cx d_jdk_38_method_25_1 rfl ?_
  refine Go.getf W0 d_jdk_38_method_25_2 (wd hw 181 rfl) (Via.of (wd hw 182 rfl)) Fm ?_
  intro T1 W1
  refine Go.iconst W1.cx d_jdk_38_method_25_5 (z := (1 : Int32)) rfl ?_
  refine Go.iadd W1.cx d_jdk_38_method_25_6 ?_
  refine Go.putf W1 d_jdk_38_method_25_7 (wd hw 181 rfl) (Via.of (wd hw 182 rfl)) Fm E_a (Or.inl (wd hw 68 rfl)) (wd hw 49 rfl) (t := .int) (by decide) (v' := (.int (mc + 1))) rfl rfl (by simp) ?_
  intro T2 h2 W2 R2
  have Fs2 := Fs.other R2 (Or.inr (slot_ne (Or.inl (wd hw 184 rfl)) (Or.inl (wd hw 68 rfl)) (by decide) (t := .int) (t' := .int) (by decide) (by decide)))
  have Fe2 := Fe.other R2 (Or.inr (slot_ne (Or.inl (wd hw 71 rfl)) (Or.inl (wd hw 68 rfl)) (by decide) (t := (.array (.object "java/lang/Object"))) (t' := .int) (by decide) (by decide)))
  have Ev2 := E_v.wr R2
  have B2 : AL1 Z h2 a d n vs := ⟨E_a.wr R2, ⟨_, Fm.same R2⟩, Fs2, Fe2, OA.other R2 hne, hvl, hne⟩
  refine Go.aload_n W2.cx d_jdk_38_method_25_10 (v := (.ref a)) rfl rfl ?_
  refine Go.aload_n W2.cx d_jdk_38_method_25_11 (v := (.ref v)) rfl rfl ?_
  refine Go.aload_n W2.cx d_jdk_38_method_25_12 (v := (.ref a)) rfl rfl ?_
  refine Go.getf W2 d_jdk_38_method_25_13 (wd hw 70 rfl) Via.refl Fe2 ?_
  intro T3 W3
  refine Go.aload_n W3.cx d_jdk_38_method_25_16 (v := (.ref a)) rfl rfl ?_
  refine Go.getf W3 d_jdk_38_method_25_17 (wd hw 183 rfl) Via.refl Fs2 ?_
  intro T4 W4
  refine Go.invv0 W4 (Ctr.call (wt := 0) (c_ad3b l Z a0 hw hE W4.old ha hd B2 hn Ev2) W4.ew (wd hw 189 rfl) (wd hw 50 rfl) (by simp) (by decide) (by decide)) d_jdk_38_method_25_20 (wd hw 185 rfl) (decl_of (wd hw 186 rfl) (wd hw 189 rfl)) (wd hw 188 rfl) (wd hw 186 rfl) (by decide) B2.1 pd_19 rfl rfl (rest := []) rfl (Nat.le_of_eq rfl) (cells' := 0) (slots' := 0) rfl rfl (by decide) (by decide) ?_
  rintro T5 h5 W5 z5 ⟨K5, B5⟩
  refine Go.iconst W5.cx d_jdk_38_method_25_23 (z := (1 : Int32)) rfl ?_
  exact Go.iret W5 d_jdk_38_method_25_24 (by simp) rfl (by decide) (by decide) ⟨_, rfl, rfl, keep_wr R2 K5, B5⟩
theorem d_jdk_38_method_8_0 : Dec jdk_38_method_8_code 0 (.aload_n 0) 1 1 := ⟨by decide +kernel, rfl⟩
theorem d_jdk_38_method_8_1 : Dec jdk_38_method_8_code 1 (.getfield 48) 3 4 := ⟨by decide +kernel, rfl⟩
theorem d_jdk_38_method_8_4 : Dec jdk_38_method_8_code 4 (.ireturn) 1 5 := ⟨by decide +kernel, rfl⟩
set_option maxRecDepth 65536 in
set_option maxHeartbeats 40000000 in
theorem c_size (l : Launch) (Z : State) (a0 : Array Value) (hw : ∀ d ∈ tables_1, d.before a0 Z = true) (hE : EW Z a0 EL0) {n0 : Nat} {h0 : Heap} (hO : Old Z n0 h0) {a d : Addr} {n : Nat} {vs : List Value} (B : AL1 Z h0 a d n vs) :
    Ctr NW EL0 n0 Z [] l (⟨"java/util/ArrayList", "size", "()I"⟩ : MethodName) jdk_38_method_8_code 1 (some .int) ({ frames := 0, cells := 0, slots := 0, locals := 0 } : Room) #[.ref a] h0 (RV fun w h => w = .int (Int32.ofNat n) ∧ h0 = h) := by
  refine Ctr.body (plainFor_of_name pn_7) hE hO (fun x q => nomatch q) (L0 := #[.val (.ref a)]) (fun m => by first | (simp [entryFrame, mkF, argsToLocals, Value.category, maxLocals]; done) | rfl) ?_
  intro p e s m below meth c T0 W0
  obtain ⟨E_a, ⟨mc, Fm⟩, Fs, Fe, OA, hvl, hne⟩ := id B
  refine Go.aload_n W0.cx d_jdk_38_method_8_0 (v := (.ref a)) rfl rfl ?_
  refine Go.getf W0 d_jdk_38_method_8_1 (wd hw 183 rfl) Via.refl Fs ?_
  intro T1 W1
  exact Go.iret W1 d_jdk_38_method_8_4 (by simp) rfl (by decide) (by decide) ⟨_, rfl, rfl, rfl⟩
theorem d_jdk_41_method_11_0 : Dec jdk_41_method_11_code 0 (.iload_n 0) 1 1 := ⟨by decide +kernel, rfl⟩
theorem d_jdk_41_method_11_1 : Dec jdk_41_method_11_code 1 (.ifCond .lt 8) 3 4 := ⟨by decide +kernel, rfl⟩
theorem d_jdk_41_method_11_4 : Dec jdk_41_method_11_code 4 (.iload_n 0) 1 5 := ⟨by decide +kernel, rfl⟩
theorem d_jdk_41_method_11_5 : Dec jdk_41_method_11_code 5 (.iload_n 1) 1 6 := ⟨by decide +kernel, rfl⟩
theorem d_jdk_41_method_11_6 : Dec jdk_41_method_11_code 6 (.if_icmp .lt 10) 3 9 := ⟨by decide +kernel, rfl⟩
theorem d_jdk_41_method_11_16 : Dec jdk_41_method_11_code 16 (.iload_n 0) 1 17 := ⟨by decide +kernel, rfl⟩
theorem d_jdk_41_method_11_17 : Dec jdk_41_method_11_code 17 (.ireturn) 1 18 := ⟨by decide +kernel, rfl⟩
set_option maxRecDepth 65536 in
set_option maxHeartbeats 40000000 in
theorem c_pci (l : Launch) (Z : State) (a0 : Array Value) (hw : ∀ d ∈ tables_1, d.before a0 Z = true) (hE : EW Z a0 EL0) {n0 : Nat} {h0 : Heap} (hO : Old Z n0 h0) {i n : Nat} (hin : i < n) (hn : n ≤ 4000) :
    Ctr NW EL0 n0 Z [] l (⟨"jdk/internal/util/Preconditions", "checkIndex", "(IILjava/util/function/BiFunction;)I"⟩ : MethodName) jdk_41_method_11_code 3 (some .int) ({ frames := 0, cells := 0, slots := 0, locals := 0 } : Room) #[.int (Int32.ofNat i), .int (Int32.ofNat n), .null] h0 (RV fun w h => w = .int (Int32.ofNat i) ∧ h0 = h) := by
  refine Ctr.body (plainFor_of_name pn_4) hE hO (fun x q => nomatch q) (L0 := #[.val (.int (Int32.ofNat i)), .val (.int (Int32.ofNat n)), .val .null]) (fun m => by first | (simp [entryFrame, mkF, argsToLocals, Value.category, maxLocals]; done) | rfl) ?_
  intro p e s m below meth c T0 W0
  refine Go.iload_n W0.cx d_jdk_41_method_11_0 (v := (Int32.ofNat i)) rfl ?_
  refine Go.iflt W0.cx d_jdk_41_method_11_1 (by decide) (q := 9) rfl (fun hh => (by first | exact absurd (show ¬ Int32.ofNat i < Int32.ofNat 0 by rw [lt_nat (by omega) (by omega)]; omega) hh | exact absurd hh (show ¬ Int32.ofNat i < Int32.ofNat 0 by rw [lt_nat (by omega) (by omega)]; omega))) (fun _ => ?_)
  refine Go.iload_n W0.cx d_jdk_41_method_11_4 (v := (Int32.ofNat i)) rfl ?_
  refine Go.iload_n W0.cx d_jdk_41_method_11_5 (v := (Int32.ofNat n)) rfl ?_
  refine Go.iclt W0.cx d_jdk_41_method_11_6 (by decide) (q := 16) rfl (fun _ => ?_) (fun hh => (by first | exact absurd (show Int32.ofNat i < Int32.ofNat n by rw [lt_nat (by omega) (by omega)]; omega) hh | exact absurd hh (show Int32.ofNat i < Int32.ofNat n by rw [lt_nat (by omega) (by omega)]; omega)))
  refine Go.iload_n W0.cx d_jdk_41_method_11_16 (v := (Int32.ofNat i)) rfl ?_
  exact Go.iret W0 d_jdk_41_method_11_17 (by simp) rfl (by decide) (by decide) ⟨_, rfl, rfl, rfl⟩
theorem pn_8 : plainName "java/util/Objects" = true := by first | (simp [plainName, overriddenIn]; done) | decide +kernel
theorem d_jdk_31_method_17_0 : Dec jdk_31_method_17_code 0 (.iload_n 0) 1 1 := ⟨by decide +kernel, rfl⟩
theorem d_jdk_31_method_17_1 : Dec jdk_31_method_17_code 1 (.iload_n 1) 1 2 := ⟨by decide +kernel, rfl⟩
theorem d_jdk_31_method_17_2 : Dec jdk_31_method_17_code 2 (.aconst_null) 1 3 := ⟨by decide +kernel, rfl⟩
theorem d_jdk_31_method_17_3 : Dec jdk_31_method_17_code 3 (.invokestatic 105) 3 6 := ⟨by decide +kernel, rfl⟩
theorem pd_20 : parseMethodDescriptor "(IILjava/util/function/BiFunction;)I" = some ⟨[.int, .int, (.object "java/util/function/BiFunction")], some .int⟩ := by decide +kernel
theorem d_jdk_31_method_17_6 : Dec jdk_31_method_17_code 6 (.ireturn) 1 7 := ⟨by decide +kernel, rfl⟩
set_option maxRecDepth 65536 in
set_option maxHeartbeats 40000000 in
theorem c_oci (l : Launch) (Z : State) (a0 : Array Value) (hw : ∀ d ∈ tables_1, d.before a0 Z = true) (hE : EW Z a0 EL0) {n0 : Nat} {h0 : Heap} (hO : Old Z n0 h0) {i n : Nat} (hin : i < n) (hn : n ≤ 4000) :
    Ctr NW EL0 n0 Z [] l (⟨"java/util/Objects", "checkIndex", "(II)I"⟩ : MethodName) jdk_31_method_17_code 2 (some .int) ({ frames := 1, cells := 0, slots := 0, locals := 14 } : Room) #[.int (Int32.ofNat i), .int (Int32.ofNat n)] h0 (RV fun w h => w = .int (Int32.ofNat i) ∧ h0 = h) := by
  refine Ctr.body (plainFor_of_name pn_8) hE hO (fun x q => nomatch q) (L0 := #[.val (.int (Int32.ofNat i)), .val (.int (Int32.ofNat n))]) (fun m => by first | (simp [entryFrame, mkF, argsToLocals, Value.category, maxLocals]; done) | rfl) ?_
  intro p e s m below meth c T0 W0
  refine Go.iload_n W0.cx d_jdk_31_method_17_0 (v := (Int32.ofNat i)) rfl ?_
  refine Go.iload_n W0.cx d_jdk_31_method_17_1 (v := (Int32.ofNat n)) rfl ?_
  refine Go.aconst_null W0.cx d_jdk_31_method_17_2 ?_
  refine Go.invs1 W0 (Ctr.call (wt := 0) (c_pci l Z a0 hw hE W0.old hin hn) W0.ew (wd hw 103 rfl) (wd hw 100 rfl) (by simp) (by decide) (by decide)) d_jdk_31_method_17_3 (wd hw 233 rfl) (wd hw 102 rfl) (wd hw 100 rfl) (wd hw 103 rfl) (by decide) pd_20 rfl rfl (rest := []) rfl (Nat.le_of_eq rfl) (cells' := 0) (slots' := 0) rfl rfl (by decide) (by decide) ?_
  rintro T1 h1 _ W1 z1 ⟨rfl, e1⟩
  subst e1
  exact Go.iret W1 d_jdk_31_method_17_6 (by simp) rfl (by decide) (by decide) ⟨_, rfl, rfl, rfl⟩
theorem d_jdk_38_method_18_0 : Dec jdk_38_method_18_code 0 (.aload_n 0) 1 1 := ⟨by decide +kernel, rfl⟩
theorem d_jdk_38_method_18_1 : Dec jdk_38_method_18_code 1 (.getfield 9) 3 4 := ⟨by decide +kernel, rfl⟩
theorem d_jdk_38_method_18_4 : Dec jdk_38_method_18_code 4 (.iload_n 1) 1 5 := ⟨by decide +kernel, rfl⟩
theorem d_jdk_38_method_18_5 : Dec jdk_38_method_18_code 5 (.aaload) 1 6 := ⟨by decide +kernel, rfl⟩
theorem d_jdk_38_method_18_6 : Dec jdk_38_method_18_code 6 (.areturn) 1 7 := ⟨by decide +kernel, rfl⟩
set_option maxRecDepth 65536 in
set_option maxHeartbeats 40000000 in
theorem c_eld (l : Launch) (Z : State) (a0 : Array Value) (hw : ∀ d ∈ tables_1, d.before a0 Z = true) (hE : EW Z a0 EL0) {n0 : Nat} {h0 : Heap} (hO : Old Z n0 h0) {a d : Addr} {n : Nat} {vs : List Value} (B : AL1 Z h0 a d n vs) {i : Nat} {v : Addr} (hv : vs[i]? = some (.ref v)) :
    Ctr NW EL0 n0 Z [] l (⟨"java/util/ArrayList", "elementData", "(I)Ljava/lang/Object;"⟩ : MethodName) jdk_38_method_18_code 2 (some (.object "java/lang/Object")) ({ frames := 0, cells := 0, slots := 0, locals := 0 } : Room) #[.ref a, .int (Int32.ofNat i)] h0 (RV fun w h => w = .ref v ∧ h0 = h) := by
  refine Ctr.body (plainFor_of_name pn_7) hE hO (fun x q => nomatch q) (L0 := #[.val (.ref a), .val (.int (Int32.ofNat i))]) (fun m => by first | (simp [entryFrame, mkF, argsToLocals, Value.category, maxLocals]; done) | rfl) ?_
  intro p e s m below meth c T0 W0
  obtain ⟨E_a, ⟨mc, Fm⟩, Fs, Fe, OA, hvl, hne⟩ := id B
  have hi := (List.getElem?_eq_some_iff.mp hv).1
  refine Go.aload_n W0.cx d_jdk_38_method_18_0 (v := (.ref a)) rfl rfl ?_
  refine Go.getf W0 d_jdk_38_method_18_1 (wd hw 70 rfl) Via.refl Fe ?_
  intro T1 W1
  refine Go.iload_n W1.cx d_jdk_38_method_18_4 (v := (Int32.ofNat i)) rfl ?_
  refine Go.aaload W1 i d_jdk_38_method_18_5 OA.oar rfl (by omega) (v := .ref v) hv ?_
  exact Go.aret W1 d_jdk_38_method_18_6 rfl rfl rfl (by decide) (by decide) ⟨_, rfl, rfl, rfl⟩
theorem d_jdk_38_method_20_0 : Dec jdk_38_method_20_code 0 (.iload_n 1) 1 1 := ⟨by decide +kernel, rfl⟩
theorem d_jdk_38_method_20_1 : Dec jdk_38_method_20_code 1 (.aload_n 0) 1 2 := ⟨by decide +kernel, rfl⟩
theorem d_jdk_38_method_20_2 : Dec jdk_38_method_20_code 2 (.getfield 48) 3 5 := ⟨by decide +kernel, rfl⟩
theorem d_jdk_38_method_20_5 : Dec jdk_38_method_20_code 5 (.invokestatic 118) 3 8 := ⟨by decide +kernel, rfl⟩
theorem d_jdk_38_method_20_8 : Dec jdk_38_method_20_code 8 (.pop) 1 9 := ⟨by decide +kernel, rfl⟩
theorem d_jdk_38_method_20_9 : Dec jdk_38_method_20_code 9 (.aload_n 0) 1 10 := ⟨by decide +kernel, rfl⟩
theorem d_jdk_38_method_20_10 : Dec jdk_38_method_20_code 10 (.iload_n 1) 1 11 := ⟨by decide +kernel, rfl⟩
theorem d_jdk_38_method_20_11 : Dec jdk_38_method_20_code 11 (.invokevirtual 123) 3 14 := ⟨by decide +kernel, rfl⟩
theorem pd_21 : parseMethodDescriptor "(I)Ljava/lang/Object;" = some ⟨[.int], some (.object "java/lang/Object")⟩ := by decide +kernel
theorem d_jdk_38_method_20_14 : Dec jdk_38_method_20_code 14 (.areturn) 1 15 := ⟨by decide +kernel, rfl⟩
set_option maxRecDepth 65536 in
set_option maxHeartbeats 40000000 in
theorem c_get (l : Launch) (Z : State) (a0 : Array Value) (hw : ∀ d ∈ tables_1, d.before a0 Z = true) (hE : EW Z a0 EL0) {n0 : Nat} {h0 : Heap} (hO : Old Z n0 h0) {a d : Addr} {n : Nat} {vs : List Value} (B : AL1 Z h0 a d n vs) {i : Nat} {v : Addr} (hv : vs[i]? = some (.ref v)) (hin : i < n) (hn4 : n ≤ 4000) :
    Ctr NW EL0 n0 Z [] l (⟨"java/util/ArrayList", "get", "(I)Ljava/lang/Object;"⟩ : MethodName) jdk_38_method_20_code 2 (some (.object "java/lang/Object")) ({ frames := 2, cells := 0, slots := 0, locals := 27 } : Room) #[.ref a, .int (Int32.ofNat i)] h0 (RV fun w h => w = .ref v ∧ h0 = h) := by
  refine Ctr.body (plainFor_of_name pn_7) hE hO (fun x q => nomatch q) (L0 := #[.val (.ref a), .val (.int (Int32.ofNat i))]) (fun m => by first | (simp [entryFrame, mkF, argsToLocals, Value.category, maxLocals]; done) | rfl) ?_
  intro p e s m below meth c T0 W0
  obtain ⟨E_a, ⟨mc, Fm⟩, Fs, Fe, OA, hvl, hne⟩ := id B
  refine Go.iload_n W0.cx d_jdk_38_method_20_0 (v := (Int32.ofNat i)) rfl ?_
  refine Go.aload_n W0.cx d_jdk_38_method_20_1 (v := (.ref a)) rfl rfl ?_
  refine Go.getf W0 d_jdk_38_method_20_2 (wd hw 183 rfl) Via.refl Fs ?_
  intro T1 W1
  refine Go.invs1 W1 (Ctr.call (wt := 0) (c_oci l Z a0 hw hE W1.old (n := n) hin (by omega)) W1.ew (wd hw 232 rfl) (wd hw 231 rfl) (by simp) (by decide) (by decide)) d_jdk_38_method_20_5 (wd hw 229 rfl) (wd hw 230 rfl) (wd hw 231 rfl) (wd hw 232 rfl) (by decide) pd_4 rfl rfl (rest := []) rfl (Nat.le_of_eq rfl) (cells' := 0) (slots' := 0) rfl rfl (by decide) (by decide) ?_
  rintro T2 h2 _ W2 z2 ⟨rfl, e2⟩
  subst e2
  refine Go.pop W2.cx d_jdk_38_method_20_8 rfl ?_
  refine Go.aload_n W2.cx d_jdk_38_method_20_9 (v := (.ref a)) rfl rfl ?_
  refine Go.iload_n W2.cx d_jdk_38_method_20_10 (v := (Int32.ofNat i)) rfl ?_
  refine Go.invv1 W2 (Ctr.call (wt := 0) (c_eld l Z a0 hw hE W2.old B hv) W2.ew (wd hw 238 rfl) (wd hw 50 rfl) (by simp) (by decide) (by decide)) d_jdk_38_method_20_11 (wd hw 234 rfl) (wd hw 235 rfl) (wd hw 237 rfl) (wd hw 236 rfl) (by decide) E_a pd_21 rfl rfl (rest := []) rfl (Nat.le_of_eq rfl) (cells' := 0) (slots' := 0) rfl rfl (by decide) (by decide) ?_
  rintro T3 h3 _ W3 z3 ⟨rfl, e3⟩
  subst e3
  exact Go.aret W3 d_jdk_38_method_20_14 rfl rfl rfl (by decide) (by decide) ⟨_, rfl, rfl, rfl⟩
def bi (b : Bool) : Int32 := if b then 1 else 0
def stp (s : Bool × Bool) (c : Int32) : Bool × Bool := if s.2 = true then (s.1, false) else if s.1 = true ∧ c = 92 then (true, true) else if c = 34 then (!s.1, false) else (s.1, false)
def trj (cs : List Int32) : Nat → Bool × Bool
  | 0 => (false, false)
  | n + 1 => stp (trj cs n) (cs.getD n 0)
def Evt (cs : List Int32) (sp : Int32) (t : Nat) : Prop := trj cs t = (false, false) ∧ cs.getD t 0 = sp
def Strp (cs ds : List Int32) : Prop := ∃ i j : Nat, ((∀ t, t < i → wsP (cs.getD t 0)) ∧ (∀ t, j ≤ t → t < cs.length → wsP (cs.getD t 0)) ∧ ((i = cs.length ∧ j = i) ∨ (i < j ∧ j ≤ cs.length ∧ ¬ wsP (cs.getD i 0) ∧ ¬ wsP (cs.getD (j - 1) 0)))) ∧ ds = (cs.drop i).take (j - i)
def runA : Bool × Bool → List Int32 → Bool × Bool
  | s, [] => s
  | s, c :: r => runA (stp s c) r
def noev (sp : Int32) : Bool × Bool → List Int32 → Prop
  | _, [] => True
  | s, c :: r => ¬ (s = (false, false) ∧ c = sp) ∧ noev sp (stp s c) r
theorem runA_app (s : Bool × Bool) (l r : List Int32) : runA s (l ++ r) = runA (runA s l) r := by
  induction l generalizing s with
  | nil => rfl
  | cons c l ih => exact ih (stp s c)
theorem noev_app {sp : Int32} {s : Bool × Bool} {l r : List Int32} (h1 : noev sp s l) (h2 : noev sp (runA s l) r) : noev sp s (l ++ r) := by
  induction l generalizing s with
  | nil => exact h2
  | cons c l ih => exact ⟨h1.1, ih h1.2 h2⟩
theorem getD_drop0 {cs l : List Int32} {a : Nat} {c : Int32} (h : cs.drop a = c :: l) : cs.getD a 0 = c := by
  have := congrArg (fun z => z[0]?) h
  simp only [List.getElem?_drop, List.getElem?_cons_zero, Nat.add_zero] at this
  rw [List.getD_eq_getElem?_getD, this]; rfl
theorem drop_succ0 {cs l : List Int32} {a : Nat} {c : Int32} (h : cs.drop a = c :: l) : cs.drop (a + 1) = l := by
  rw [← List.drop_drop, h]; rfl
theorem trj_run {cs : List Int32} (l r : List Int32) (a : Nat) (h : cs.drop a = l ++ r) : trj cs (a + l.length) = runA (trj cs a) l := by
  induction l generalizing a with
  | nil => rfl
  | cons c l ih =>
    have e := ih (a + 1) (drop_succ0 h)
    rw [List.length_cons, show a + (l.length + 1) = a + 1 + l.length by omega, e]
    show runA (stp (trj cs a) (cs.getD a 0)) l = _
    rw [getD_drop0 h]; rfl
theorem noev_evt {cs : List Int32} {sp : Int32} (l r : List Int32) (a : Nat) (h : cs.drop a = l ++ r) (hn : noev sp (trj cs a) l) : ∀ t, a ≤ t → t < a + l.length → ¬ Evt cs sp t := by
  induction l generalizing a with
  | nil => intro t h1 h2; simp at h2; omega
  | cons c l ih =>
    intro t h1 h2
    rcases Nat.lt_or_eq_of_le h1 with z | z
    · refine ih (a + 1) (drop_succ0 h) ?_ t z (by rw [List.length_cons] at h2; omega)
      have q := hn.2
      show noev sp (stp (trj cs a) (cs.getD a 0)) l
      rw [getD_drop0 h]; exact q
    · subst z
      intro q
      exact hn.1 ⟨q.1, by rw [← getD_drop0 h]; exact q.2⟩
theorem bi_ne {q : Bool} {z : Int32} (h : z = bi q) : (z = 0 ↔ q = false) := by subst h; cases q <;> decide
theorem all2 {P : Addr → Prop} {y z : Addr} (q : P y) (q2 : P z) : ∀ x ∈ [y, z], P x := fun x u => by rcases List.mem_cons.mp u with rfl | u; exact q; exact (List.mem_singleton.mp u) ▸ q2
theorem pn_9 : plainName "com/example/wheal/wheal/FieldValues" = true := by first | (simp [plainName, overriddenIn]; done) | decide +kernel
theorem d_prog_1_method_2_0 : Dec prog_1_method_2_code 0 (.new 7) 3 3 := ⟨by decide +kernel, rfl⟩
theorem d_prog_1_method_2_3 : Dec prog_1_method_2_code 3 (.dup) 1 4 := ⟨by decide +kernel, rfl⟩
theorem d_prog_1_method_2_4 : Dec prog_1_method_2_code 4 (.invokespecial 9) 3 7 := ⟨by decide +kernel, rfl⟩
theorem d_prog_1_method_2_7 : Dec prog_1_method_2_code 7 (.astore_n 2) 1 8 := ⟨by decide +kernel, rfl⟩
theorem d_prog_1_method_2_8 : Dec prog_1_method_2_code 8 (.iconst 0) 1 9 := ⟨by decide +kernel, rfl⟩
theorem d_prog_1_method_2_9 : Dec prog_1_method_2_code 9 (.istore_n 3) 1 10 := ⟨by decide +kernel, rfl⟩
theorem d_prog_1_method_2_10 : Dec prog_1_method_2_code 10 (.iconst 0) 1 11 := ⟨by decide +kernel, rfl⟩
theorem d_prog_1_method_2_11 : Dec prog_1_method_2_code 11 (.istore 4) 2 13 := ⟨by decide +kernel, rfl⟩
theorem d_prog_1_method_2_13 : Dec prog_1_method_2_code 13 (.iconst 0) 1 14 := ⟨by decide +kernel, rfl⟩
theorem d_prog_1_method_2_14 : Dec prog_1_method_2_code 14 (.istore 5) 2 16 := ⟨by decide +kernel, rfl⟩
theorem d_prog_1_method_2_16 : Dec prog_1_method_2_code 16 (.iconst 0) 1 17 := ⟨by decide +kernel, rfl⟩
theorem d_prog_1_method_2_17 : Dec prog_1_method_2_code 17 (.istore 6) 2 19 := ⟨by decide +kernel, rfl⟩
theorem d_prog_1_method_2_19 : Dec prog_1_method_2_code 19 (.iload 6) 2 21 := ⟨by decide +kernel, rfl⟩
theorem d_prog_1_method_2_21 : Dec prog_1_method_2_code 21 (.aload_n 0) 1 22 := ⟨by decide +kernel, rfl⟩
theorem d_prog_1_method_2_22 : Dec prog_1_method_2_code 22 (.invokevirtual 10) 3 25 := ⟨by decide +kernel, rfl⟩
theorem d_prog_1_method_2_25 : Dec prog_1_method_2_code 25 (.if_icmp .ge 101) 3 28 := ⟨by decide +kernel, rfl⟩
theorem d_prog_1_method_2_28 : Dec prog_1_method_2_code 28 (.aload_n 0) 1 29 := ⟨by decide +kernel, rfl⟩
theorem d_prog_1_method_2_29 : Dec prog_1_method_2_code 29 (.iload 6) 2 31 := ⟨by decide +kernel, rfl⟩
theorem d_prog_1_method_2_31 : Dec prog_1_method_2_code 31 (.invokevirtual 16) 3 34 := ⟨by decide +kernel, rfl⟩
theorem pd_22 : parseMethodDescriptor "(I)C" = some ⟨[.int], some .char⟩ := by decide +kernel
theorem d_prog_1_method_2_34 : Dec prog_1_method_2_code 34 (.istore 7) 2 36 := ⟨by decide +kernel, rfl⟩
theorem d_prog_1_method_2_120 : Dec prog_1_method_2_code 120 (.iinc 6 1) 3 123 := ⟨by decide +kernel, rfl⟩
theorem d_prog_1_method_2_123 : Dec prog_1_method_2_code 123 (.goto (-104)) 3 126 := ⟨by decide +kernel, rfl⟩
theorem d_prog_1_method_2_36 : Dec prog_1_method_2_code 36 (.iload 5) 2 38 := ⟨by decide +kernel, rfl⟩
theorem d_prog_1_method_2_38 : Dec prog_1_method_2_code 38 (.ifCond .eq 9) 3 41 := ⟨by decide +kernel, rfl⟩
theorem d_prog_1_method_2_41 : Dec prog_1_method_2_code 41 (.iconst 0) 1 42 := ⟨by decide +kernel, rfl⟩
theorem d_prog_1_method_2_42 : Dec prog_1_method_2_code 42 (.istore 5) 2 44 := ⟨by decide +kernel, rfl⟩
theorem d_prog_1_method_2_44 : Dec prog_1_method_2_code 44 (.goto 76) 3 47 := ⟨by decide +kernel, rfl⟩
theorem d_prog_1_method_2_47 : Dec prog_1_method_2_code 47 (.iload 4) 2 49 := ⟨by decide +kernel, rfl⟩
theorem d_prog_1_method_2_49 : Dec prog_1_method_2_code 49 (.ifCond .eq 16) 3 52 := ⟨by decide +kernel, rfl⟩
theorem d_prog_1_method_2_65 : Dec prog_1_method_2_code 65 (.iload 7) 2 67 := ⟨by decide +kernel, rfl⟩
theorem d_prog_1_method_2_67 : Dec prog_1_method_2_code 67 (.bipush 34) 2 69 := ⟨by decide +kernel, rfl⟩
theorem d_prog_1_method_2_69 : Dec prog_1_method_2_code 69 (.if_icmp .ne 18) 3 72 := ⟨by decide +kernel, rfl⟩
theorem d_prog_1_method_2_87 : Dec prog_1_method_2_code 87 (.iload 7) 2 89 := ⟨by decide +kernel, rfl⟩
theorem d_prog_1_method_2_89 : Dec prog_1_method_2_code 89 (.iload_n 1) 1 90 := ⟨by decide +kernel, rfl⟩
theorem d_prog_1_method_2_90 : Dec prog_1_method_2_code 90 (.if_icmp .ne 30) 3 93 := ⟨by decide +kernel, rfl⟩
theorem d_prog_1_method_2_72 : Dec prog_1_method_2_code 72 (.iload 4) 2 74 := ⟨by decide +kernel, rfl⟩
theorem d_prog_1_method_2_74 : Dec prog_1_method_2_code 74 (.ifCond .ne 7) 3 77 := ⟨by decide +kernel, rfl⟩
theorem d_prog_1_method_2_77 : Dec prog_1_method_2_code 77 (.iconst 1) 1 78 := ⟨by decide +kernel, rfl⟩
theorem d_prog_1_method_2_78 : Dec prog_1_method_2_code 78 (.goto 4) 3 81 := ⟨by decide +kernel, rfl⟩
theorem d_prog_1_method_2_82 : Dec prog_1_method_2_code 82 (.istore 4) 2 84 := ⟨by decide +kernel, rfl⟩
theorem d_prog_1_method_2_84 : Dec prog_1_method_2_code 84 (.goto 36) 3 87 := ⟨by decide +kernel, rfl⟩
theorem d_prog_1_method_2_52 : Dec prog_1_method_2_code 52 (.iload 7) 2 54 := ⟨by decide +kernel, rfl⟩
theorem d_prog_1_method_2_54 : Dec prog_1_method_2_code 54 (.bipush 92) 2 56 := ⟨by decide +kernel, rfl⟩
theorem d_prog_1_method_2_56 : Dec prog_1_method_2_code 56 (.if_icmp .ne 9) 3 59 := ⟨by decide +kernel, rfl⟩
theorem d_prog_1_method_2_93 : Dec prog_1_method_2_code 93 (.iload 4) 2 95 := ⟨by decide +kernel, rfl⟩
theorem d_prog_1_method_2_95 : Dec prog_1_method_2_code 95 (.ifCond .ne 25) 3 98 := ⟨by decide +kernel, rfl⟩
theorem d_prog_1_method_2_81 : Dec prog_1_method_2_code 81 (.iconst 0) 1 82 := ⟨by decide +kernel, rfl⟩
theorem d_prog_1_method_2_59 : Dec prog_1_method_2_code 59 (.iconst 1) 1 60 := ⟨by decide +kernel, rfl⟩
theorem d_prog_1_method_2_60 : Dec prog_1_method_2_code 60 (.istore 5) 2 62 := ⟨by decide +kernel, rfl⟩
theorem d_prog_1_method_2_62 : Dec prog_1_method_2_code 62 (.goto 58) 3 65 := ⟨by decide +kernel, rfl⟩
theorem d_prog_1_method_2_98 : Dec prog_1_method_2_code 98 (.aload_n 2) 1 99 := ⟨by decide +kernel, rfl⟩
theorem d_prog_1_method_2_99 : Dec prog_1_method_2_code 99 (.aload_n 0) 1 100 := ⟨by decide +kernel, rfl⟩
theorem d_prog_1_method_2_100 : Dec prog_1_method_2_code 100 (.iload_n 3) 1 101 := ⟨by decide +kernel, rfl⟩
theorem d_prog_1_method_2_101 : Dec prog_1_method_2_code 101 (.iload 6) 2 103 := ⟨by decide +kernel, rfl⟩
theorem d_prog_1_method_2_103 : Dec prog_1_method_2_code 103 (.invokevirtual 20) 3 106 := ⟨by decide +kernel, rfl⟩
theorem d_prog_1_method_2_106 : Dec prog_1_method_2_code 106 (.invokevirtual 24) 3 109 := ⟨by decide +kernel, rfl⟩
theorem pd_23 : parseMethodDescriptor "()Ljava/lang/String;" = some ⟨[], some (.object "java/lang/String")⟩ := by decide +kernel
theorem d_prog_1_method_2_109 : Dec prog_1_method_2_code 109 (.invokeinterface 28 2) 5 114 := ⟨by decide +kernel, rfl⟩
theorem pd_24 : parseMethodDescriptor "(Ljava/lang/Object;)Z" = some ⟨[(.object "java/lang/Object")], some .boolean⟩ := by decide +kernel
theorem d_prog_1_method_2_114 : Dec prog_1_method_2_code 114 (.pop) 1 115 := ⟨by decide +kernel, rfl⟩
theorem d_prog_1_method_2_115 : Dec prog_1_method_2_code 115 (.iload 6) 2 117 := ⟨by decide +kernel, rfl⟩
theorem d_prog_1_method_2_117 : Dec prog_1_method_2_code 117 (.iconst 1) 1 118 := ⟨by decide +kernel, rfl⟩
theorem d_prog_1_method_2_118 : Dec prog_1_method_2_code 118 (.iadd) 1 119 := ⟨by decide +kernel, rfl⟩
theorem d_prog_1_method_2_119 : Dec prog_1_method_2_code 119 (.istore_n 3) 1 120 := ⟨by decide +kernel, rfl⟩
theorem d_prog_1_method_2_126 : Dec prog_1_method_2_code 126 (.aload_n 2) 1 127 := ⟨by decide +kernel, rfl⟩
theorem d_prog_1_method_2_127 : Dec prog_1_method_2_code 127 (.aload_n 0) 1 128 := ⟨by decide +kernel, rfl⟩
theorem d_prog_1_method_2_128 : Dec prog_1_method_2_code 128 (.iload_n 3) 1 129 := ⟨by decide +kernel, rfl⟩
theorem d_prog_1_method_2_129 : Dec prog_1_method_2_code 129 (.invokevirtual 34) 3 132 := ⟨by decide +kernel, rfl⟩
theorem pd_25 : parseMethodDescriptor "(I)Ljava/lang/String;" = some ⟨[.int], some (.object "java/lang/String")⟩ := by decide +kernel
theorem d_prog_1_method_2_132 : Dec prog_1_method_2_code 132 (.invokevirtual 24) 3 135 := ⟨by decide +kernel, rfl⟩
theorem d_prog_1_method_2_135 : Dec prog_1_method_2_code 135 (.invokeinterface 28 2) 5 140 := ⟨by decide +kernel, rfl⟩
theorem d_prog_1_method_2_140 : Dec prog_1_method_2_code 140 (.pop) 1 141 := ⟨by decide +kernel, rfl⟩
theorem d_prog_1_method_2_141 : Dec prog_1_method_2_code 141 (.aload_n 2) 1 142 := ⟨by decide +kernel, rfl⟩
theorem d_prog_1_method_2_142 : Dec prog_1_method_2_code 142 (.areturn) 1 143 := ⟨by decide +kernel, rfl⟩
set_option maxRecDepth 65536 in
set_option maxHeartbeats 40000000 in
theorem c_split (l : Launch) (Z : State) (a0 : Array Value) (hw : ∀ d ∈ tables_1, d.before a0 Z = true) (hE : EW Z a0 EL0) {n0 : Nat} {h0 : Heap} (hO : Old Z n0 h0) (hG : Gl Z) (hL : Lat Z) {D : Addr} (hD : DF Z D) {a : Addr} {cs : List Int32} (S : Str Z h0 a cs) (hcl : cs.length = 20) {sp : Int32} (hs34 : ¬ sp = 34) (t6 : trj cs 6 = (false, false)) (c6 : cs.getD 6 0 = sp) (t13 : trj cs 13 = (false, false)) (c13 : cs.getD 13 0 = sp) (ne6 : ∀ t, t < 6 → ¬ Evt cs sp t) (ne13 : ∀ t, 7 ≤ t → t < 13 → ¬ Evt cs sp t) (ne20 : ∀ t, 14 ≤ t → t < 20 → ¬ Evt cs sp t) :
    Ctr NW EL0 n0 Z [] l (⟨"com/example/wheal/wheal/FieldValues", "split", "(Ljava/lang/String;C)Ljava/util/List;"⟩ : MethodName) prog_1_method_2_code 8 (some (.object "java/util/List")) ({ frames := 6, cells := 14, slots := 77, locals := 110 } : Room) #[.ref a, .int sp] h0 (RV fun w h => ∃ (b d v0 v1 v2 : Addr) (p0 p1 p2 : List Int32), w = .ref b ∧ Ext h0 h ∧ AL1 Z h b d 3 ((((List.replicate 10 .null).set 0 (.ref v0)).set 1 (.ref v1)).set 2 (.ref v2)) ∧ Strp ((cs.drop 0).take 6) p0 ∧ Strp ((cs.drop 7).take 6) p1 ∧ Strp ((cs.drop 14).take 6) p2 ∧ Str Z h v0 p0 ∧ Str Z h v1 p1 ∧ Str Z h v2 p2) := by
  refine Ctr.body (plainFor_of_name pn_9) hE hO (fun x q => nomatch q) (L0 := #[.val (.ref a), .val (.int sp), .unset, .unset, .unset, .unset, .unset, .unset]) (fun m => by first | (simp [entryFrame, mkF, argsToLocals, Value.category, maxLocals]; done) | rfl) ?_
  intro p e s m below meth c T0 W0
  have hpc := S.2.2.2.1
  refine Go.new W0 d_prog_1_method_2_0 (wd hw 48 rfl) (wd hw 49 rfl) (wd hw 50 rfl) (cells' := 1) (slots' := 3) rfl rfl (by decide) (by decide) ?_
  intro T1 h1 a1 g1 W1 E1 A1 D1
  have Fm1 := D1 (Or.inl (wd hw 68 rfl)) (t := .int) (by decide)
  have Fs1 := D1 (Or.inl (wd hw 184 rfl)) (t := .int) (by decide)
  have Fe1 := D1 (Or.inl (wd hw 71 rfl)) (t := (.array (.object "java/lang/Object"))) (by decide)
  refine Go.dup W1.cx d_prog_1_method_2_3 rfl ?_
  refine Go.invi W1 (Ctr.call (wt := 1) (c_ali l Z a0 hw hE W1.old (W1.mine (by simp)).1 A1 Fm1 Fs1 Fe1 hD) W1.ew (wd hw 53 rfl) (wd hw 50 rfl) (by simp) (by decide) (by decide)) d_prog_1_method_2_4 rfl (wd hw 51 rfl) (wd hw 52 rfl) (wd hw 53 rfl) (by decide) pd_16 rfl rfl (rest := [(.ref a1)]) rfl (Nat.le_of_eq rfl) (cells' := 1) (slots' := 3) rfl rfl (by decide) (by decide) ?_
  rintro T2 h2 W2 z2 ⟨K2, E_2, Fm2, Fs2, Fe2⟩
  have la : h0.size ≤ a1 := Nat.le_of_eq g1.symm
  have X2 : Ext h0 h2 := ext_keep E1 K2 (all1 la)
  have n0a : n0 ≤ a1 := Nat.le_trans (old_le hO) la
  refine Go.astore_n W2.cx d_prog_1_method_2_7 (L' := #[.val (.ref a), .val (.int sp), .val (.ref a1), .unset, .unset, .unset, .unset, .unset]) rfl rfl ?_
  refine Go.iconst W2.cx d_prog_1_method_2_8 (z := (0 : Int32)) rfl ?_
  refine Go.istore_n W2.cx d_prog_1_method_2_9 (L' := #[.val (.ref a), .val (.int sp), .val (.ref a1), .val (.int (0 : Int32)), .unset, .unset, .unset, .unset]) rfl ?_
  refine Go.iconst W2.cx d_prog_1_method_2_10 (z := (0 : Int32)) rfl ?_
  refine Go.istore W2.cx d_prog_1_method_2_11 (L' := #[.val (.ref a), .val (.int sp), .val (.ref a1), .val (.int (0 : Int32)), .val (.int (0 : Int32)), .unset, .unset, .unset]) rfl ?_
  refine Go.iconst W2.cx d_prog_1_method_2_13 (z := (0 : Int32)) rfl ?_
  refine Go.istore W2.cx d_prog_1_method_2_14 (L' := #[.val (.ref a), .val (.int sp), .val (.ref a1), .val (.int (0 : Int32)), .val (.int (0 : Int32)), .val (.int (0 : Int32)), .unset, .unset]) rfl ?_
  refine Go.iconst W2.cx d_prog_1_method_2_16 (z := (0 : Int32)) rfl ?_
  refine Go.istore W2.cx d_prog_1_method_2_17 (L' := #[.val (.ref a), .val (.int sp), .val (.ref a1), .val (.int (0 : Int32)), .val (.int (0 : Int32)), .val (.int (0 : Int32)), .val (.int (0 : Int32)), .unset]) rfl ?_
  have Sx6 := S.ext X2
  have sg6 : ∀ j i, i + j = 6 → (∀ t, i ≤ t → t < 6 → ¬ Evt cs sp t) → ∀ (T : State) (s7 : Slot) (z4 z5 : Int32), (s7 = .unset ∨ ∃ x : Int32, s7 = .val (.int x)) → z4 = bi (trj cs i).1 → z5 = bi (trj cs i).2 → Wk NW EL0 n0 Z a0 "com/example/wheal/wheal/FieldValues" "split" prog_1_method_2_code 8 (some (.object "java/util/List")) p l e ({ frames := 6, cells := 14, slots := 77, locals := 110 } : Room) s m #[.ref a, .int sp] below meth c T h2 [a1] 1 3 → (∀ (T : State) (s7 : Slot) (z4 z5 : Int32), (s7 = .unset ∨ ∃ x : Int32, s7 = .val (.int x)) → z4 = bi (trj cs 6).1 → z5 = bi (trj cs 6).2 → Wk NW EL0 n0 Z a0 "com/example/wheal/wheal/FieldValues" "split" prog_1_method_2_code 8 (some (.object "java/util/List")) p l e ({ frames := 6, cells := 14, slots := 77, locals := 110 } : Room) s m #[.ref a, .int sp] below meth c T h2 [a1] 1 3 → Go p e below (Endp NW EL0 n0 Z below s ({ frames := 6, cells := 14, slots := 77, locals := 110 } : Room).cells ({ frames := 6, cells := 14, slots := 77, locals := 110 } : Room).slots (RV fun w h => ∃ (b d v0 v1 v2 : Addr) (p0 p1 p2 : List Int32), w = .ref b ∧ Ext h0 h ∧ AL1 Z h b d 3 ((((List.replicate 10 .null).set 0 (.ref v0)).set 1 (.ref v1)).set 2 (.ref v2)) ∧ Strp ((cs.drop 0).take 6) p0 ∧ Strp ((cs.drop 7).take 6) p1 ∧ Strp ((cs.drop 14).take 6) p2 ∧ Str Z h v0 p0 ∧ Str Z h v1 p1 ∧ Str Z h v2 p2)) T (mkF m 19 #[.val (.ref a), .val (.int sp), .val (.ref a1), .val (.int (0 : Int32)), .val (.int z4), .val (.int z5), .val (.int (Int32.ofNat 6)), s7] [])) → Go p e below (Endp NW EL0 n0 Z below s ({ frames := 6, cells := 14, slots := 77, locals := 110 } : Room).cells ({ frames := 6, cells := 14, slots := 77, locals := 110 } : Room).slots (RV fun w h => ∃ (b d v0 v1 v2 : Addr) (p0 p1 p2 : List Int32), w = .ref b ∧ Ext h0 h ∧ AL1 Z h b d 3 ((((List.replicate 10 .null).set 0 (.ref v0)).set 1 (.ref v1)).set 2 (.ref v2)) ∧ Strp ((cs.drop 0).take 6) p0 ∧ Strp ((cs.drop 7).take 6) p1 ∧ Strp ((cs.drop 14).take 6) p2 ∧ Str Z h v0 p0 ∧ Str Z h v1 p1 ∧ Str Z h v2 p2)) T (mkF m 19 #[.val (.ref a), .val (.int sp), .val (.ref a1), .val (.int (0 : Int32)), .val (.int z4), .val (.int z5), .val (.int (Int32.ofNat i)), s7] []) := by
    intro j
    induction j with
    | zero =>
      intro i hi hn T s7 z4 z5 hs7 h4 h5 W KK
      obtain rfl : i = 6 := by omega
      exact KK T s7 z4 z5 hs7 h4 h5 W
    | succ j ih =>
      intro i hi hn T1600 s7 z4 z5 hs7 h4 h5 W1600 KK
      refine Go.iload W1600.cx d_prog_1_method_2_19 (v := (Int32.ofNat i)) rfl ?_
      refine Go.aload_n W1600.cx d_prog_1_method_2_21 (v := (.ref a)) rfl rfl ?_
      refine Go.invv1 W1600 (strLen (wt := 1) W1600.ew hw hG Sx6 (by decide) (by decide)) d_prog_1_method_2_22 (wd hw 72 rfl) (wd hw 73 rfl) (wd hw 75 rfl) (wd hw 74 rfl) (by decide) Sx6.exa pd_9 rfl rfl (rest := [(.int (Int32.ofNat i))]) rfl (Nat.le_of_eq rfl) (cells' := 1) (slots' := 3) rfl rfl (by decide) (by decide) ?_
      rintro T1601 h1601 _ W1601 z1601 ⟨rfl, e1601⟩
      subst e1601
      refine Go.icge W1601.cx d_prog_1_method_2_25 (by decide) (q := 126) rfl (fun hh => (by first | exact absurd (show Int32.ofNat i < Int32.ofNat cs.length by rw [lt_nat (by omega) (by omega)]; omega) hh | exact absurd hh (show Int32.ofNat i < Int32.ofNat cs.length by rw [lt_nat (by omega) (by omega)]; omega))) (fun _ => ?_)
      refine Go.aload_n W1601.cx d_prog_1_method_2_28 (v := (.ref a)) rfl rfl ?_
      refine Go.iload W1601.cx d_prog_1_method_2_29 (v := (Int32.ofNat i)) rfl ?_
      refine Go.invv1 W1601 (strAt (wt := 0) W1601.ew hw hG i Sx6 (by omega) rfl (by decide) (by decide)) d_prog_1_method_2_31 (wd hw 82 rfl) (wd hw 83 rfl) (wd hw 85 rfl) (wd hw 84 rfl) (by decide) Sx6.exa pd_22 rfl rfl (rest := []) rfl (Nat.le_of_eq rfl) (cells' := 1) (slots' := 3) rfl rfl (by decide) (by decide) ?_
      rintro T1602 h1602 _ W1602 z1602 ⟨rfl, e1602⟩
      subst e1602
      obtain ⟨cc, hcc⟩ : ∃ z : Int32, z = (cs.getD i 0) := ⟨_, rfl⟩
      refine Go.top hcc.symm ?_
      refine Go.istore W1602.cx d_prog_1_method_2_34 (L' := #[.val (.ref a), .val (.int sp), .val (.ref a1), .val (.int (0 : Int32)), .val (.int z4), .val (.int z5), .val (.int (Int32.ofNat i)), .val (.int cc)]) (by rcases hs7 with rfl | ⟨_, rfl⟩ <;> rfl) ?_
      obtain ⟨⟨q, e0⟩, hqe⟩ : ∃ s, trj cs i = s := ⟨_, rfl⟩
      have hst : trj cs (i + 1) = stp (q, e0) cc := by show stp (trj cs i) (cs.getD i 0) = _; rw [hqe, hcc]
      have hev := hn i (Nat.le_refl _) (by omega)
      unfold Evt at hev
      rw [hqe, ← hcc] at hev
      rw [hqe] at h4 h5
      have b4 := bi_ne h4
      have b5 := bi_ne h5
      have J120 : ∀ (y4 y5 : Int32), y4 = bi (trj cs (i + 1)).1 → y5 = bi (trj cs (i + 1)).2 → ∀ (T : State), Wk NW EL0 n0 Z a0 "com/example/wheal/wheal/FieldValues" "split" prog_1_method_2_code 8 (some (.object "java/util/List")) p l e ({ frames := 6, cells := 14, slots := 77, locals := 110 } : Room) s m #[.ref a, .int sp] below meth c T h2 [a1] 1 3 → Go p e below (Endp NW EL0 n0 Z below s ({ frames := 6, cells := 14, slots := 77, locals := 110 } : Room).cells ({ frames := 6, cells := 14, slots := 77, locals := 110 } : Room).slots (RV fun w h => ∃ (b d v0 v1 v2 : Addr) (p0 p1 p2 : List Int32), w = .ref b ∧ Ext h0 h ∧ AL1 Z h b d 3 ((((List.replicate 10 .null).set 0 (.ref v0)).set 1 (.ref v1)).set 2 (.ref v2)) ∧ Strp ((cs.drop 0).take 6) p0 ∧ Strp ((cs.drop 7).take 6) p1 ∧ Strp ((cs.drop 14).take 6) p2 ∧ Str Z h v0 p0 ∧ Str Z h v1 p1 ∧ Str Z h v2 p2)) T (mkF m 120 #[.val (.ref a), .val (.int sp), .val (.ref a1), .val (.int (0 : Int32)), .val (.int y4), .val (.int y5), .val (.int (Int32.ofNat i)), .val (.int cc)] []) := by
        intro y4 y5 g4 g5 T1650 W1650
        refine Go.iinc W1650.cx d_prog_1_method_2_120 (z := (Int32.ofNat (i + 1))) (L' := #[.val (.ref a), .val (.int sp), .val (.ref a1), .val (.int (0 : Int32)), .val (.int y4), .val (.int y5), .val (.int (Int32.ofNat (i + 1))), .val (.int cc)]) rfl (add1_nat i) rfl ?_
        refine Go.goto W1650.cx d_prog_1_method_2_123 (by decide) (q := 19) rfl ?_
        exact ih (i + 1) (by omega) (fun t u1 u2 => hn t (by omega) u2) _ _ _ _ (Or.inr ⟨_, rfl⟩) g4 g5 W1650 KK
      cases e0 with
      | true =>
        refine Go.iload W1602.cx d_prog_1_method_2_36 (v := z5) rfl ?_
        refine Go.ifeq W1602.cx d_prog_1_method_2_38 (by decide) (q := 47) rfl (fun hh => (by first | exact absurd (show ¬ z5 = 0 from fun z => Bool.noConfusion (show true = false from b5.mp z)) hh | exact absurd hh (show ¬ z5 = 0 from fun z => Bool.noConfusion (show true = false from b5.mp z)))) (fun _ => ?_)
        refine Go.iconst W1602.cx d_prog_1_method_2_41 (z := (0 : Int32)) rfl ?_
        refine Go.istore W1602.cx d_prog_1_method_2_42 (L' := #[.val (.ref a), .val (.int sp), .val (.ref a1), .val (.int (0 : Int32)), .val (.int z4), .val (.int (0 : Int32)), .val (.int (Int32.ofNat i)), .val (.int cc)]) rfl ?_
        refine Go.goto W1602.cx d_prog_1_method_2_44 (by decide) (q := 120) rfl ?_
        exact J120 _ _ (by rw [hst]; exact h4) (by rw [hst]; rfl) _ W1602
      | false =>
        refine Go.iload W1602.cx d_prog_1_method_2_36 (v := z5) rfl ?_
        refine Go.ifeq W1602.cx d_prog_1_method_2_38 (by decide) (q := 47) rfl (fun _ => ?_) (fun hh => (by first | exact absurd (show z5 = 0 from b5.mpr rfl) hh | exact absurd hh (show z5 = 0 from b5.mpr rfl)))
        cases q with
        | false =>
          refine Go.iload W1602.cx d_prog_1_method_2_47 (v := z4) rfl ?_
          refine Go.ifeq W1602.cx d_prog_1_method_2_49 (by decide) (q := 65) rfl (fun _ => ?_) (fun hh => (by first | exact absurd (show z4 = 0 from b4.mpr rfl) hh | exact absurd hh (show z4 = 0 from b4.mpr rfl)))
          refine Go.iload W1602.cx d_prog_1_method_2_65 (v := cc) rfl ?_
          refine Go.bipush W1602.cx d_prog_1_method_2_67 (z := (34 : Int32)) rfl ?_
          refine Go.icne W1602.cx d_prog_1_method_2_69 (by decide) (q := 87) rfl (fun d1 => ?_) (fun d1 => ?_)
          · refine Go.iload W1602.cx d_prog_1_method_2_87 (v := cc) rfl ?_
            refine Go.iload_n W1602.cx d_prog_1_method_2_89 (v := sp) rfl ?_
            refine Go.icne W1602.cx d_prog_1_method_2_90 (by decide) (q := 120) rfl (fun d2 => ?_) (fun d2 => ?_)
            · exact J120 _ _ (by rw [hst]; simp [stp, d1]; exact h4) (by rw [hst]; simp [stp, d1]; exact h5) _ W1602
            · exact absurd ⟨rfl, d2⟩ hev
          · refine Go.iload W1602.cx d_prog_1_method_2_72 (v := z4) rfl ?_
            refine Go.ifne W1602.cx d_prog_1_method_2_74 (by decide) (q := 81) rfl (fun hh => (by first | exact absurd (show z4 = 0 from b4.mpr rfl) hh | exact absurd hh (show z4 = 0 from b4.mpr rfl))) (fun _ => ?_)
            refine Go.iconst W1602.cx d_prog_1_method_2_77 (z := (1 : Int32)) rfl ?_
            refine Go.goto W1602.cx d_prog_1_method_2_78 (by decide) (q := 82) rfl ?_
            refine Go.istore W1602.cx d_prog_1_method_2_82 (L' := #[.val (.ref a), .val (.int sp), .val (.ref a1), .val (.int (0 : Int32)), .val (.int (1 : Int32)), .val (.int z5), .val (.int (Int32.ofNat i)), .val (.int cc)]) rfl ?_
            refine Go.goto W1602.cx d_prog_1_method_2_84 (by decide) (q := 120) rfl ?_
            exact J120 _ _ (by rw [hst]; simp [stp, d1, bi]) (by rw [hst]; simp [stp, d1]; exact h5) _ W1602
        | true =>
          refine Go.iload W1602.cx d_prog_1_method_2_47 (v := z4) rfl ?_
          refine Go.ifeq W1602.cx d_prog_1_method_2_49 (by decide) (q := 65) rfl (fun hh => (by first | exact absurd (show ¬ z4 = 0 from fun z => Bool.noConfusion (show true = false from b4.mp z)) hh | exact absurd hh (show ¬ z4 = 0 from fun z => Bool.noConfusion (show true = false from b4.mp z)))) (fun _ => ?_)
          refine Go.iload W1602.cx d_prog_1_method_2_52 (v := cc) rfl ?_
          refine Go.bipush W1602.cx d_prog_1_method_2_54 (z := (92 : Int32)) rfl ?_
          refine Go.icne W1602.cx d_prog_1_method_2_56 (by decide) (q := 65) rfl (fun d3 => ?_) (fun d3 => ?_)
          · refine Go.iload W1602.cx d_prog_1_method_2_65 (v := cc) rfl ?_
            refine Go.bipush W1602.cx d_prog_1_method_2_67 (z := (34 : Int32)) rfl ?_
            refine Go.icne W1602.cx d_prog_1_method_2_69 (by decide) (q := 87) rfl (fun d1 => ?_) (fun d1 => ?_)
            · refine Go.iload W1602.cx d_prog_1_method_2_87 (v := cc) rfl ?_
              refine Go.iload_n W1602.cx d_prog_1_method_2_89 (v := sp) rfl ?_
              refine Go.icne W1602.cx d_prog_1_method_2_90 (by decide) (q := 120) rfl (fun d2 => ?_) (fun d2 => ?_)
              · exact J120 _ _ (by rw [hst]; simp [stp, d1, d3]; exact h4) (by rw [hst]; simp [stp, d1, d3]; exact h5) _ W1602
              · refine Go.iload W1602.cx d_prog_1_method_2_93 (v := z4) rfl ?_
                refine Go.ifne W1602.cx d_prog_1_method_2_95 (by decide) (q := 120) rfl (fun _ => ?_) (fun hh => (by first | exact absurd (show ¬ z4 = 0 from fun z => Bool.noConfusion (show true = false from b4.mp z)) hh | exact absurd hh (show ¬ z4 = 0 from fun z => Bool.noConfusion (show true = false from b4.mp z))))
                exact J120 _ _ (by rw [hst]; simp [stp, d1, d3]; exact h4) (by rw [hst]; simp [stp, d1, d3]; exact h5) _ W1602
            · refine Go.iload W1602.cx d_prog_1_method_2_72 (v := z4) rfl ?_
              refine Go.ifne W1602.cx d_prog_1_method_2_74 (by decide) (q := 81) rfl (fun _ => ?_) (fun hh => (by first | exact absurd (show ¬ z4 = 0 from fun z => Bool.noConfusion (show true = false from b4.mp z)) hh | exact absurd hh (show ¬ z4 = 0 from fun z => Bool.noConfusion (show true = false from b4.mp z))))
              refine Go.iconst W1602.cx d_prog_1_method_2_81 (z := (0 : Int32)) rfl ?_
              refine Go.istore W1602.cx d_prog_1_method_2_82 (L' := #[.val (.ref a), .val (.int sp), .val (.ref a1), .val (.int (0 : Int32)), .val (.int (0 : Int32)), .val (.int z5), .val (.int (Int32.ofNat i)), .val (.int cc)]) rfl ?_
              refine Go.goto W1602.cx d_prog_1_method_2_84 (by decide) (q := 120) rfl ?_
              exact J120 _ _ (by rw [hst]; simp [stp, d1, bi]) (by rw [hst]; simp [stp, d1]; exact h5) _ W1602
          · refine Go.iconst W1602.cx d_prog_1_method_2_59 (z := (1 : Int32)) rfl ?_
            refine Go.istore W1602.cx d_prog_1_method_2_60 (L' := #[.val (.ref a), .val (.int sp), .val (.ref a1), .val (.int (0 : Int32)), .val (.int z4), .val (.int (1 : Int32)), .val (.int (Int32.ofNat i)), .val (.int cc)]) rfl ?_
            refine Go.goto W1602.cx d_prog_1_method_2_62 (by decide) (q := 120) rfl ?_
            exact J120 _ _ (by rw [hst]; simp [stp, d3]; exact h4) (by rw [hst]; simp [stp, d3, bi]) _ W1602
  refine sg6 6 0 rfl (fun t _ u => ne6 t u) _ _ _ _ (Or.inl rfl) rfl rfl W2 ?_
  intro T1680 s7 z4 z5 hs7 h4 h5 W1680
  rw [t6] at h4 h5
  refine Go.iload W1680.cx d_prog_1_method_2_19 (v := (Int32.ofNat 6)) rfl ?_
  refine Go.aload_n W1680.cx d_prog_1_method_2_21 (v := (.ref a)) rfl rfl ?_
  refine Go.invv1 W1680 (strLen (wt := 1) W1680.ew hw hG Sx6 (by decide) (by decide)) d_prog_1_method_2_22 (wd hw 72 rfl) (wd hw 73 rfl) (wd hw 75 rfl) (wd hw 74 rfl) (by decide) Sx6.exa pd_9 rfl rfl (rest := [(.int (Int32.ofNat 6))]) rfl (Nat.le_of_eq rfl) (cells' := 1) (slots' := 3) rfl rfl (by decide) (by decide) ?_
  rintro T1681 h1681 _ W1681 z1681 ⟨rfl, e1681⟩
  subst e1681
  refine Go.icge W1681.cx d_prog_1_method_2_25 (by decide) (q := 126) rfl (fun hh => (by first | exact absurd (show Int32.ofNat 6 < Int32.ofNat cs.length by rw [lt_nat (by omega) (by omega)]; omega) hh | exact absurd hh (show Int32.ofNat 6 < Int32.ofNat cs.length by rw [lt_nat (by omega) (by omega)]; omega))) (fun _ => ?_)
  refine Go.aload_n W1681.cx d_prog_1_method_2_28 (v := (.ref a)) rfl rfl ?_
  refine Go.iload W1681.cx d_prog_1_method_2_29 (v := (Int32.ofNat 6)) rfl ?_
  refine Go.invv1 W1681 (strAt (wt := 0) W1681.ew hw hG 6 Sx6 (by omega) rfl (by decide) (by decide)) d_prog_1_method_2_31 (wd hw 82 rfl) (wd hw 83 rfl) (wd hw 85 rfl) (wd hw 84 rfl) (by decide) Sx6.exa pd_22 rfl rfl (rest := []) rfl (Nat.le_of_eq rfl) (cells' := 1) (slots' := 3) rfl rfl (by decide) (by decide) ?_
  rintro T1682 h1682 _ W1682 z1682 ⟨rfl, e1682⟩
  subst e1682
  refine Go.top c6 ?_
  refine Go.istore W1682.cx d_prog_1_method_2_34 (L' := #[.val (.ref a), .val (.int sp), .val (.ref a1), .val (.int (0 : Int32)), .val (.int z4), .val (.int z5), .val (.int (Int32.ofNat 6)), .val (.int sp)]) (by rcases hs7 with rfl | ⟨_, rfl⟩ <;> rfl) ?_
  refine Go.iload W1682.cx d_prog_1_method_2_36 (v := z5) rfl ?_
  refine Go.ifeq W1682.cx d_prog_1_method_2_38 (by decide) (q := 47) rfl (fun _ => ?_) (fun hh => (by first | exact absurd (show z5 = 0 from h5) hh | exact absurd hh (show z5 = 0 from h5)))
  refine Go.iload W1682.cx d_prog_1_method_2_47 (v := z4) rfl ?_
  refine Go.ifeq W1682.cx d_prog_1_method_2_49 (by decide) (q := 65) rfl (fun _ => ?_) (fun hh => (by first | exact absurd (show z4 = 0 from h4) hh | exact absurd hh (show z4 = 0 from h4)))
  refine Go.iload W1682.cx d_prog_1_method_2_65 (v := sp) rfl ?_
  refine Go.bipush W1682.cx d_prog_1_method_2_67 (z := (34 : Int32)) rfl ?_
  refine Go.icne W1682.cx d_prog_1_method_2_69 (by decide) (q := 87) rfl (fun _ => ?_) (fun hh => (by first | exact absurd hs34 hh | exact absurd hh hs34))
  refine Go.iload W1682.cx d_prog_1_method_2_87 (v := sp) rfl ?_
  refine Go.iload_n W1682.cx d_prog_1_method_2_89 (v := sp) rfl ?_
  refine Go.icne W1682.cx d_prog_1_method_2_90 (by decide) (q := 120) rfl (fun hh => (by first | exact absurd (rfl : sp = sp) hh | exact absurd hh (rfl : sp = sp))) (fun _ => ?_)
  refine Go.iload W1682.cx d_prog_1_method_2_93 (v := z4) rfl ?_
  refine Go.ifne W1682.cx d_prog_1_method_2_95 (by decide) (q := 120) rfl (fun hh => (by first | exact absurd (show z4 = 0 from h4) hh | exact absurd hh (show z4 = 0 from h4))) (fun _ => ?_)
  refine Go.aload_n W1682.cx d_prog_1_method_2_98 (v := (.ref a1)) rfl rfl ?_
  refine Go.aload_n W1682.cx d_prog_1_method_2_99 (v := (.ref a)) rfl rfl ?_
  refine Go.iload_n W1682.cx d_prog_1_method_2_100 (v := (0 : Int32)) rfl ?_
  refine Go.iload W1682.cx d_prog_1_method_2_101 (v := (Int32.ofNat 6)) rfl ?_
  refine Go.invv1 W1682 (Ctr.call (wt := 1) (c_sub l Z a0 hw hE W1682.old hG Sx6 (f := 0) (e1 := 6) (by decide) (by omega) (by omega) (by decide)) W1682.ew (wd hw 108 rfl) (wd hw 14 rfl) (by simp) (by decide) (by decide)) d_prog_1_method_2_103 (wd hw 104 rfl) (wd hw 105 rfl) (wd hw 107 rfl) (wd hw 106 rfl) (by decide) Sx6.exa pd_13 rfl rfl (rest := [(.ref a1)]) rfl (Nat.le_of_eq rfl) (cells' := 3) (slots' := 13) rfl rfl (by decide) (by decide) ?_
  rintro T1683 h1683 _ W1683 z1683 ⟨r1683, rfl, E1683, S1683⟩
  have hl1683 : ((cs.drop 0).take 6).length = 6 := by rw [List.length_take, List.length_drop]; omega
  refine Go.invv1 W1683 (Ctr.call (wt := 1) (c_strip l Z a0 hw hE W1683.old hG hL S1683 (by rw [show ((cs.drop 0).take _).length = 6 from hl1683]; decide)) W1683.ew (wd hw 145 rfl) (wd hw 14 rfl) (by simp) (by decide) (by decide)) d_prog_1_method_2_106 (wd hw 141 rfl) (wd hw 142 rfl) (wd hw 144 rfl) (wd hw 143 rfl) (by decide) S1683.exa pd_23 rfl rfl (rest := [(.ref a1)]) rfl (Nat.le_of_eq rfl) (cells' := 5) (slots' := 23) rfl rfl (by decide) (by decide) ?_
  rintro T1684 h1684 _ W1684 z1684 ⟨i1684, j1684, r1684, rfl, P1684, E1684, S1684⟩
  obtain ⟨p6, hp6⟩ : ∃ p, p = ((((cs.drop 0).take 6).drop i1684).take (j1684 - i1684)) := ⟨_, rfl⟩
  have SP6 : Strp ((cs.drop 0).take 6) p6 := ⟨i1684, j1684, P1684, hp6⟩
  have SS6 : Str Z h1684 r1684 p6 := by rw [hp6]; exact S1684
  have XX6 := ext_trans E1683 E1684
  have XQ6 := ext_trans X2 XX6
  have E_x := E_2.ext XX6
  have Fmx := Fm2.ext XX6
  have Fsx := Fs2.ext XX6
  have Fex := Fe2.ext XX6
  refine Go.invf1 (y := (⟨"java/util/List", "add", "(Ljava/lang/Object;)Z"⟩ : MethodName)) W1684 (Ctr.call (wt := 0) (c_ad1 l Z a0 hw hE W1684.old hD n0a E_x Fmx Fsx Fex SS6.exa) W1684.ew (wd hw 180 rfl) (wd hw 50 rfl) (by simp) (by decide) (by decide)) d_prog_1_method_2_109 (wd hw 172 rfl) (wd hw 173 rfl) (wd hw 174 rfl) (wd hw 175 rfl) (wd hw 176 rfl) (wd hw 177 rfl) (wd hw 178 rfl) (wd hw 179 rfl) (by decide) E_x pd_24 rfl rfl (rest := []) rfl (Nat.le_of_eq rfl) (cells' := 6) (slots' := 33) rfl rfl (by decide) (by decide) ?_
  rintro T1685 h1685 _ W1685 z1685 ⟨rfl, d1685, l1685, K1685, B1685⟩
  have hd1685 : h0.size ≤ d1685 := Nat.le_trans XQ6.1 l1685
  have X1685 : Ext h0 h1685 := ext_keep XQ6 K1685 (all1 la)
  have P06 := SS6.keep1 (wd hw 49 rfl) K1685 E_x (by decide)
  have W16859 := W1685.oar B1685.2.2.2.2.1 (Nat.le_trans (old_le hO) hd1685) (hTo hw rfl)
  refine Go.pop W16859.cx d_prog_1_method_2_114 rfl ?_
  refine Go.iload W16859.cx d_prog_1_method_2_115 (v := (Int32.ofNat 6)) rfl ?_
  refine Go.iconst W16859.cx d_prog_1_method_2_117 (z := (1 : Int32)) rfl ?_
  refine Go.iadd W16859.cx d_prog_1_method_2_118 ?_
  refine Go.top (show _ = Int32.ofNat 7 from rfl) ?_
  refine Go.istore_n W16859.cx d_prog_1_method_2_119 (L' := #[.val (.ref a), .val (.int sp), .val (.ref a1), .val (.int (Int32.ofNat 7)), .val (.int z4), .val (.int z5), .val (.int (Int32.ofNat 6)), .val (.int sp)]) rfl ?_
  refine Go.iinc W16859.cx d_prog_1_method_2_120 (z := (Int32.ofNat 7)) (L' := #[.val (.ref a), .val (.int sp), .val (.ref a1), .val (.int (Int32.ofNat 7)), .val (.int z4), .val (.int z5), .val (.int (Int32.ofNat 7)), .val (.int sp)]) rfl (rfl) rfl ?_
  refine Go.goto W16859.cx d_prog_1_method_2_123 (by decide) (q := 19) rfl ?_
  have tt6 : trj cs 7 = (false, false) := by show stp (trj cs 6) (cs.getD 6 0) = _; rw [t6, c6]; simp [stp, hs34]
  have hz4_7 : z4 = bi (trj cs 7).1 := by rw [tt6]; exact h4
  have hz5_7 : z5 = bi (trj cs 7).2 := by rw [tt6]; exact h5
  have Sx13 := S.ext X1685
  have sg13 : ∀ j i, i + j = 13 → (∀ t, i ≤ t → t < 13 → ¬ Evt cs sp t) → ∀ (T : State) (s7 : Slot) (z4 z5 : Int32), (s7 = .unset ∨ ∃ x : Int32, s7 = .val (.int x)) → z4 = bi (trj cs i).1 → z5 = bi (trj cs i).2 → Wk NW EL0 n0 Z a0 "com/example/wheal/wheal/FieldValues" "split" prog_1_method_2_code 8 (some (.object "java/util/List")) p l e ({ frames := 6, cells := 14, slots := 77, locals := 110 } : Room) s m #[.ref a, .int sp] below meth c T h1685 [d1685, a1] 6 33 → (∀ (T : State) (s7 : Slot) (z4 z5 : Int32), (s7 = .unset ∨ ∃ x : Int32, s7 = .val (.int x)) → z4 = bi (trj cs 13).1 → z5 = bi (trj cs 13).2 → Wk NW EL0 n0 Z a0 "com/example/wheal/wheal/FieldValues" "split" prog_1_method_2_code 8 (some (.object "java/util/List")) p l e ({ frames := 6, cells := 14, slots := 77, locals := 110 } : Room) s m #[.ref a, .int sp] below meth c T h1685 [d1685, a1] 6 33 → Go p e below (Endp NW EL0 n0 Z below s ({ frames := 6, cells := 14, slots := 77, locals := 110 } : Room).cells ({ frames := 6, cells := 14, slots := 77, locals := 110 } : Room).slots (RV fun w h => ∃ (b d v0 v1 v2 : Addr) (p0 p1 p2 : List Int32), w = .ref b ∧ Ext h0 h ∧ AL1 Z h b d 3 ((((List.replicate 10 .null).set 0 (.ref v0)).set 1 (.ref v1)).set 2 (.ref v2)) ∧ Strp ((cs.drop 0).take 6) p0 ∧ Strp ((cs.drop 7).take 6) p1 ∧ Strp ((cs.drop 14).take 6) p2 ∧ Str Z h v0 p0 ∧ Str Z h v1 p1 ∧ Str Z h v2 p2)) T (mkF m 19 #[.val (.ref a), .val (.int sp), .val (.ref a1), .val (.int (Int32.ofNat 7)), .val (.int z4), .val (.int z5), .val (.int (Int32.ofNat 13)), s7] [])) → Go p e below (Endp NW EL0 n0 Z below s ({ frames := 6, cells := 14, slots := 77, locals := 110 } : Room).cells ({ frames := 6, cells := 14, slots := 77, locals := 110 } : Room).slots (RV fun w h => ∃ (b d v0 v1 v2 : Addr) (p0 p1 p2 : List Int32), w = .ref b ∧ Ext h0 h ∧ AL1 Z h b d 3 ((((List.replicate 10 .null).set 0 (.ref v0)).set 1 (.ref v1)).set 2 (.ref v2)) ∧ Strp ((cs.drop 0).take 6) p0 ∧ Strp ((cs.drop 7).take 6) p1 ∧ Strp ((cs.drop 14).take 6) p2 ∧ Str Z h v0 p0 ∧ Str Z h v1 p1 ∧ Str Z h v2 p2)) T (mkF m 19 #[.val (.ref a), .val (.int sp), .val (.ref a1), .val (.int (Int32.ofNat 7)), .val (.int z4), .val (.int z5), .val (.int (Int32.ofNat i)), s7] []) := by
    intro j
    induction j with
    | zero =>
      intro i hi hn T s7 z4 z5 hs7 h4 h5 W KK
      obtain rfl : i = 13 := by omega
      exact KK T s7 z4 z5 hs7 h4 h5 W
    | succ j ih =>
      intro i hi hn T2300 s7 z4 z5 hs7 h4 h5 W2300 KK
      refine Go.iload W2300.cx d_prog_1_method_2_19 (v := (Int32.ofNat i)) rfl ?_
      refine Go.aload_n W2300.cx d_prog_1_method_2_21 (v := (.ref a)) rfl rfl ?_
      refine Go.invv1 W2300 (strLen (wt := 1) W2300.ew hw hG Sx13 (by decide) (by decide)) d_prog_1_method_2_22 (wd hw 72 rfl) (wd hw 73 rfl) (wd hw 75 rfl) (wd hw 74 rfl) (by decide) Sx13.exa pd_9 rfl rfl (rest := [(.int (Int32.ofNat i))]) rfl (Nat.le_of_eq rfl) (cells' := 6) (slots' := 33) rfl rfl (by decide) (by decide) ?_
      rintro T2301 h2301 _ W2301 z2301 ⟨rfl, e2301⟩
      subst e2301
      refine Go.icge W2301.cx d_prog_1_method_2_25 (by decide) (q := 126) rfl (fun hh => (by first | exact absurd (show Int32.ofNat i < Int32.ofNat cs.length by rw [lt_nat (by omega) (by omega)]; omega) hh | exact absurd hh (show Int32.ofNat i < Int32.ofNat cs.length by rw [lt_nat (by omega) (by omega)]; omega))) (fun _ => ?_)
      refine Go.aload_n W2301.cx d_prog_1_method_2_28 (v := (.ref a)) rfl rfl ?_
      refine Go.iload W2301.cx d_prog_1_method_2_29 (v := (Int32.ofNat i)) rfl ?_
      refine Go.invv1 W2301 (strAt (wt := 0) W2301.ew hw hG i Sx13 (by omega) rfl (by decide) (by decide)) d_prog_1_method_2_31 (wd hw 82 rfl) (wd hw 83 rfl) (wd hw 85 rfl) (wd hw 84 rfl) (by decide) Sx13.exa pd_22 rfl rfl (rest := []) rfl (Nat.le_of_eq rfl) (cells' := 6) (slots' := 33) rfl rfl (by decide) (by decide) ?_
      rintro T2302 h2302 _ W2302 z2302 ⟨rfl, e2302⟩
      subst e2302
      obtain ⟨cc, hcc⟩ : ∃ z : Int32, z = (cs.getD i 0) := ⟨_, rfl⟩
      refine Go.top hcc.symm ?_
      refine Go.istore W2302.cx d_prog_1_method_2_34 (L' := #[.val (.ref a), .val (.int sp), .val (.ref a1), .val (.int (Int32.ofNat 7)), .val (.int z4), .val (.int z5), .val (.int (Int32.ofNat i)), .val (.int cc)]) (by rcases hs7 with rfl | ⟨_, rfl⟩ <;> rfl) ?_
      obtain ⟨⟨q, e0⟩, hqe⟩ : ∃ s, trj cs i = s := ⟨_, rfl⟩
      have hst : trj cs (i + 1) = stp (q, e0) cc := by show stp (trj cs i) (cs.getD i 0) = _; rw [hqe, hcc]
      have hev := hn i (Nat.le_refl _) (by omega)
      unfold Evt at hev
      rw [hqe, ← hcc] at hev
      rw [hqe] at h4 h5
      have b4 := bi_ne h4
      have b5 := bi_ne h5
      have J120 : ∀ (y4 y5 : Int32), y4 = bi (trj cs (i + 1)).1 → y5 = bi (trj cs (i + 1)).2 → ∀ (T : State), Wk NW EL0 n0 Z a0 "com/example/wheal/wheal/FieldValues" "split" prog_1_method_2_code 8 (some (.object "java/util/List")) p l e ({ frames := 6, cells := 14, slots := 77, locals := 110 } : Room) s m #[.ref a, .int sp] below meth c T h1685 [d1685, a1] 6 33 → Go p e below (Endp NW EL0 n0 Z below s ({ frames := 6, cells := 14, slots := 77, locals := 110 } : Room).cells ({ frames := 6, cells := 14, slots := 77, locals := 110 } : Room).slots (RV fun w h => ∃ (b d v0 v1 v2 : Addr) (p0 p1 p2 : List Int32), w = .ref b ∧ Ext h0 h ∧ AL1 Z h b d 3 ((((List.replicate 10 .null).set 0 (.ref v0)).set 1 (.ref v1)).set 2 (.ref v2)) ∧ Strp ((cs.drop 0).take 6) p0 ∧ Strp ((cs.drop 7).take 6) p1 ∧ Strp ((cs.drop 14).take 6) p2 ∧ Str Z h v0 p0 ∧ Str Z h v1 p1 ∧ Str Z h v2 p2)) T (mkF m 120 #[.val (.ref a), .val (.int sp), .val (.ref a1), .val (.int (Int32.ofNat 7)), .val (.int y4), .val (.int y5), .val (.int (Int32.ofNat i)), .val (.int cc)] []) := by
        intro y4 y5 g4 g5 T2350 W2350
        refine Go.iinc W2350.cx d_prog_1_method_2_120 (z := (Int32.ofNat (i + 1))) (L' := #[.val (.ref a), .val (.int sp), .val (.ref a1), .val (.int (Int32.ofNat 7)), .val (.int y4), .val (.int y5), .val (.int (Int32.ofNat (i + 1))), .val (.int cc)]) rfl (add1_nat i) rfl ?_
        refine Go.goto W2350.cx d_prog_1_method_2_123 (by decide) (q := 19) rfl ?_
        exact ih (i + 1) (by omega) (fun t u1 u2 => hn t (by omega) u2) _ _ _ _ (Or.inr ⟨_, rfl⟩) g4 g5 W2350 KK
      cases e0 with
      | true =>
        refine Go.iload W2302.cx d_prog_1_method_2_36 (v := z5) rfl ?_
        refine Go.ifeq W2302.cx d_prog_1_method_2_38 (by decide) (q := 47) rfl (fun hh => (by first | exact absurd (show ¬ z5 = 0 from fun z => Bool.noConfusion (show true = false from b5.mp z)) hh | exact absurd hh (show ¬ z5 = 0 from fun z => Bool.noConfusion (show true = false from b5.mp z)))) (fun _ => ?_)
        refine Go.iconst W2302.cx d_prog_1_method_2_41 (z := (0 : Int32)) rfl ?_
        refine Go.istore W2302.cx d_prog_1_method_2_42 (L' := #[.val (.ref a), .val (.int sp), .val (.ref a1), .val (.int (Int32.ofNat 7)), .val (.int z4), .val (.int (0 : Int32)), .val (.int (Int32.ofNat i)), .val (.int cc)]) rfl ?_
        refine Go.goto W2302.cx d_prog_1_method_2_44 (by decide) (q := 120) rfl ?_
        exact J120 _ _ (by rw [hst]; exact h4) (by rw [hst]; rfl) _ W2302
      | false =>
        refine Go.iload W2302.cx d_prog_1_method_2_36 (v := z5) rfl ?_
        refine Go.ifeq W2302.cx d_prog_1_method_2_38 (by decide) (q := 47) rfl (fun _ => ?_) (fun hh => (by first | exact absurd (show z5 = 0 from b5.mpr rfl) hh | exact absurd hh (show z5 = 0 from b5.mpr rfl)))
        cases q with
        | false =>
          refine Go.iload W2302.cx d_prog_1_method_2_47 (v := z4) rfl ?_
          refine Go.ifeq W2302.cx d_prog_1_method_2_49 (by decide) (q := 65) rfl (fun _ => ?_) (fun hh => (by first | exact absurd (show z4 = 0 from b4.mpr rfl) hh | exact absurd hh (show z4 = 0 from b4.mpr rfl)))
          refine Go.iload W2302.cx d_prog_1_method_2_65 (v := cc) rfl ?_
          refine Go.bipush W2302.cx d_prog_1_method_2_67 (z := (34 : Int32)) rfl ?_
          refine Go.icne W2302.cx d_prog_1_method_2_69 (by decide) (q := 87) rfl (fun d1 => ?_) (fun d1 => ?_)
          · refine Go.iload W2302.cx d_prog_1_method_2_87 (v := cc) rfl ?_
            refine Go.iload_n W2302.cx d_prog_1_method_2_89 (v := sp) rfl ?_
            refine Go.icne W2302.cx d_prog_1_method_2_90 (by decide) (q := 120) rfl (fun d2 => ?_) (fun d2 => ?_)
            · exact J120 _ _ (by rw [hst]; simp [stp, d1]; exact h4) (by rw [hst]; simp [stp, d1]; exact h5) _ W2302
            · exact absurd ⟨rfl, d2⟩ hev
          · refine Go.iload W2302.cx d_prog_1_method_2_72 (v := z4) rfl ?_
            refine Go.ifne W2302.cx d_prog_1_method_2_74 (by decide) (q := 81) rfl (fun hh => (by first | exact absurd (show z4 = 0 from b4.mpr rfl) hh | exact absurd hh (show z4 = 0 from b4.mpr rfl))) (fun _ => ?_)
            refine Go.iconst W2302.cx d_prog_1_method_2_77 (z := (1 : Int32)) rfl ?_
            refine Go.goto W2302.cx d_prog_1_method_2_78 (by decide) (q := 82) rfl ?_
            refine Go.istore W2302.cx d_prog_1_method_2_82 (L' := #[.val (.ref a), .val (.int sp), .val (.ref a1), .val (.int (Int32.ofNat 7)), .val (.int (1 : Int32)), .val (.int z5), .val (.int (Int32.ofNat i)), .val (.int cc)]) rfl ?_
            refine Go.goto W2302.cx d_prog_1_method_2_84 (by decide) (q := 120) rfl ?_
            exact J120 _ _ (by rw [hst]; simp [stp, d1, bi]) (by rw [hst]; simp [stp, d1]; exact h5) _ W2302
        | true =>
          refine Go.iload W2302.cx d_prog_1_method_2_47 (v := z4) rfl ?_
          refine Go.ifeq W2302.cx d_prog_1_method_2_49 (by decide) (q := 65) rfl (fun hh => (by first | exact absurd (show ¬ z4 = 0 from fun z => Bool.noConfusion (show true = false from b4.mp z)) hh | exact absurd hh (show ¬ z4 = 0 from fun z => Bool.noConfusion (show true = false from b4.mp z)))) (fun _ => ?_)
          refine Go.iload W2302.cx d_prog_1_method_2_52 (v := cc) rfl ?_
          refine Go.bipush W2302.cx d_prog_1_method_2_54 (z := (92 : Int32)) rfl ?_
          refine Go.icne W2302.cx d_prog_1_method_2_56 (by decide) (q := 65) rfl (fun d3 => ?_) (fun d3 => ?_)
          · refine Go.iload W2302.cx d_prog_1_method_2_65 (v := cc) rfl ?_
            refine Go.bipush W2302.cx d_prog_1_method_2_67 (z := (34 : Int32)) rfl ?_
            refine Go.icne W2302.cx d_prog_1_method_2_69 (by decide) (q := 87) rfl (fun d1 => ?_) (fun d1 => ?_)
            · refine Go.iload W2302.cx d_prog_1_method_2_87 (v := cc) rfl ?_
              refine Go.iload_n W2302.cx d_prog_1_method_2_89 (v := sp) rfl ?_
              refine Go.icne W2302.cx d_prog_1_method_2_90 (by decide) (q := 120) rfl (fun d2 => ?_) (fun d2 => ?_)
              · exact J120 _ _ (by rw [hst]; simp [stp, d1, d3]; exact h4) (by rw [hst]; simp [stp, d1, d3]; exact h5) _ W2302
              · refine Go.iload W2302.cx d_prog_1_method_2_93 (v := z4) rfl ?_
                refine Go.ifne W2302.cx d_prog_1_method_2_95 (by decide) (q := 120) rfl (fun _ => ?_) (fun hh => (by first | exact absurd (show ¬ z4 = 0 from fun z => Bool.noConfusion (show true = false from b4.mp z)) hh | exact absurd hh (show ¬ z4 = 0 from fun z => Bool.noConfusion (show true = false from b4.mp z))))
                exact J120 _ _ (by rw [hst]; simp [stp, d1, d3]; exact h4) (by rw [hst]; simp [stp, d1, d3]; exact h5) _ W2302
            · refine Go.iload W2302.cx d_prog_1_method_2_72 (v := z4) rfl ?_
              refine Go.ifne W2302.cx d_prog_1_method_2_74 (by decide) (q := 81) rfl (fun _ => ?_) (fun hh => (by first | exact absurd (show ¬ z4 = 0 from fun z => Bool.noConfusion (show true = false from b4.mp z)) hh | exact absurd hh (show ¬ z4 = 0 from fun z => Bool.noConfusion (show true = false from b4.mp z))))
              refine Go.iconst W2302.cx d_prog_1_method_2_81 (z := (0 : Int32)) rfl ?_
              refine Go.istore W2302.cx d_prog_1_method_2_82 (L' := #[.val (.ref a), .val (.int sp), .val (.ref a1), .val (.int (Int32.ofNat 7)), .val (.int (0 : Int32)), .val (.int z5), .val (.int (Int32.ofNat i)), .val (.int cc)]) rfl ?_
              refine Go.goto W2302.cx d_prog_1_method_2_84 (by decide) (q := 120) rfl ?_
              exact J120 _ _ (by rw [hst]; simp [stp, d1, bi]) (by rw [hst]; simp [stp, d1]; exact h5) _ W2302
          · refine Go.iconst W2302.cx d_prog_1_method_2_59 (z := (1 : Int32)) rfl ?_
            refine Go.istore W2302.cx d_prog_1_method_2_60 (L' := #[.val (.ref a), .val (.int sp), .val (.ref a1), .val (.int (Int32.ofNat 7)), .val (.int z4), .val (.int (1 : Int32)), .val (.int (Int32.ofNat i)), .val (.int cc)]) rfl ?_
            refine Go.goto W2302.cx d_prog_1_method_2_62 (by decide) (q := 120) rfl ?_
            exact J120 _ _ (by rw [hst]; simp [stp, d3]; exact h4) (by rw [hst]; simp [stp, d3, bi]) _ W2302
  refine sg13 6 7 rfl (fun t u v => ne13 t u v) _ _ _ _ (Or.inr ⟨_, rfl⟩) hz4_7 hz5_7 W16859 ?_
  intro T2380 s7 z4 z5 hs7 h4 h5 W2380
  rw [t13] at h4 h5
  refine Go.iload W2380.cx d_prog_1_method_2_19 (v := (Int32.ofNat 13)) rfl ?_
  refine Go.aload_n W2380.cx d_prog_1_method_2_21 (v := (.ref a)) rfl rfl ?_
  refine Go.invv1 W2380 (strLen (wt := 1) W2380.ew hw hG Sx13 (by decide) (by decide)) d_prog_1_method_2_22 (wd hw 72 rfl) (wd hw 73 rfl) (wd hw 75 rfl) (wd hw 74 rfl) (by decide) Sx13.exa pd_9 rfl rfl (rest := [(.int (Int32.ofNat 13))]) rfl (Nat.le_of_eq rfl) (cells' := 6) (slots' := 33) rfl rfl (by decide) (by decide) ?_
  rintro T2381 h2381 _ W2381 z2381 ⟨rfl, e2381⟩
  subst e2381
  refine Go.icge W2381.cx d_prog_1_method_2_25 (by decide) (q := 126) rfl (fun hh => (by first | exact absurd (show Int32.ofNat 13 < Int32.ofNat cs.length by rw [lt_nat (by omega) (by omega)]; omega) hh | exact absurd hh (show Int32.ofNat 13 < Int32.ofNat cs.length by rw [lt_nat (by omega) (by omega)]; omega))) (fun _ => ?_)
  refine Go.aload_n W2381.cx d_prog_1_method_2_28 (v := (.ref a)) rfl rfl ?_
  refine Go.iload W2381.cx d_prog_1_method_2_29 (v := (Int32.ofNat 13)) rfl ?_
  refine Go.invv1 W2381 (strAt (wt := 0) W2381.ew hw hG 13 Sx13 (by omega) rfl (by decide) (by decide)) d_prog_1_method_2_31 (wd hw 82 rfl) (wd hw 83 rfl) (wd hw 85 rfl) (wd hw 84 rfl) (by decide) Sx13.exa pd_22 rfl rfl (rest := []) rfl (Nat.le_of_eq rfl) (cells' := 6) (slots' := 33) rfl rfl (by decide) (by decide) ?_
  rintro T2382 h2382 _ W2382 z2382 ⟨rfl, e2382⟩
  subst e2382
  refine Go.top c13 ?_
  refine Go.istore W2382.cx d_prog_1_method_2_34 (L' := #[.val (.ref a), .val (.int sp), .val (.ref a1), .val (.int (Int32.ofNat 7)), .val (.int z4), .val (.int z5), .val (.int (Int32.ofNat 13)), .val (.int sp)]) (by rcases hs7 with rfl | ⟨_, rfl⟩ <;> rfl) ?_
  refine Go.iload W2382.cx d_prog_1_method_2_36 (v := z5) rfl ?_
  refine Go.ifeq W2382.cx d_prog_1_method_2_38 (by decide) (q := 47) rfl (fun _ => ?_) (fun hh => (by first | exact absurd (show z5 = 0 from h5) hh | exact absurd hh (show z5 = 0 from h5)))
  refine Go.iload W2382.cx d_prog_1_method_2_47 (v := z4) rfl ?_
  refine Go.ifeq W2382.cx d_prog_1_method_2_49 (by decide) (q := 65) rfl (fun _ => ?_) (fun hh => (by first | exact absurd (show z4 = 0 from h4) hh | exact absurd hh (show z4 = 0 from h4)))
  refine Go.iload W2382.cx d_prog_1_method_2_65 (v := sp) rfl ?_
  refine Go.bipush W2382.cx d_prog_1_method_2_67 (z := (34 : Int32)) rfl ?_
  refine Go.icne W2382.cx d_prog_1_method_2_69 (by decide) (q := 87) rfl (fun _ => ?_) (fun hh => (by first | exact absurd hs34 hh | exact absurd hh hs34))
  refine Go.iload W2382.cx d_prog_1_method_2_87 (v := sp) rfl ?_
  refine Go.iload_n W2382.cx d_prog_1_method_2_89 (v := sp) rfl ?_
  refine Go.icne W2382.cx d_prog_1_method_2_90 (by decide) (q := 120) rfl (fun hh => (by first | exact absurd (rfl : sp = sp) hh | exact absurd hh (rfl : sp = sp))) (fun _ => ?_)
  refine Go.iload W2382.cx d_prog_1_method_2_93 (v := z4) rfl ?_
  refine Go.ifne W2382.cx d_prog_1_method_2_95 (by decide) (q := 120) rfl (fun hh => (by first | exact absurd (show z4 = 0 from h4) hh | exact absurd hh (show z4 = 0 from h4))) (fun _ => ?_)
  refine Go.aload_n W2382.cx d_prog_1_method_2_98 (v := (.ref a1)) rfl rfl ?_
  refine Go.aload_n W2382.cx d_prog_1_method_2_99 (v := (.ref a)) rfl rfl ?_
  refine Go.iload_n W2382.cx d_prog_1_method_2_100 (v := (Int32.ofNat 7)) rfl ?_
  refine Go.iload W2382.cx d_prog_1_method_2_101 (v := (Int32.ofNat 13)) rfl ?_
  refine Go.invv1 W2382 (Ctr.call (wt := 1) (c_sub l Z a0 hw hE W2382.old hG Sx13 (f := 7) (e1 := 13) (by decide) (by omega) (by omega) (by decide)) W2382.ew (wd hw 108 rfl) (wd hw 14 rfl) (by simp) (by decide) (by decide)) d_prog_1_method_2_103 (wd hw 104 rfl) (wd hw 105 rfl) (wd hw 107 rfl) (wd hw 106 rfl) (by decide) Sx13.exa pd_13 rfl rfl (rest := [(.ref a1)]) rfl (Nat.le_of_eq rfl) (cells' := 8) (slots' := 43) rfl rfl (by decide) (by decide) ?_
  rintro T2383 h2383 _ W2383 z2383 ⟨r2383, rfl, E2383, S2383⟩
  have hl2383 : ((cs.drop 7).take 6).length = 6 := by rw [List.length_take, List.length_drop]; omega
  refine Go.invv1 W2383 (Ctr.call (wt := 1) (c_strip l Z a0 hw hE W2383.old hG hL S2383 (by rw [show ((cs.drop 7).take _).length = 6 from hl2383]; decide)) W2383.ew (wd hw 145 rfl) (wd hw 14 rfl) (by simp) (by decide) (by decide)) d_prog_1_method_2_106 (wd hw 141 rfl) (wd hw 142 rfl) (wd hw 144 rfl) (wd hw 143 rfl) (by decide) S2383.exa pd_23 rfl rfl (rest := [(.ref a1)]) rfl (Nat.le_of_eq rfl) (cells' := 10) (slots' := 53) rfl rfl (by decide) (by decide) ?_
  rintro T2384 h2384 _ W2384 z2384 ⟨i2384, j2384, r2384, rfl, P2384, E2384, S2384⟩
  obtain ⟨p13, hp13⟩ : ∃ p, p = ((((cs.drop 7).take 6).drop i2384).take (j2384 - i2384)) := ⟨_, rfl⟩
  have SP13 : Strp ((cs.drop 7).take 6) p13 := ⟨i2384, j2384, P2384, hp13⟩
  have SS13 : Str Z h2384 r2384 p13 := by rw [hp13]; exact S2384
  have XX13 := ext_trans E2383 E2384
  have XQ13 := ext_trans X1685 XX13
  have Bx13 := B1685.ext XX13
  refine Go.invf1 (y := (⟨"java/util/List", "add", "(Ljava/lang/Object;)Z"⟩ : MethodName)) W2384 (Ctr.call (wt := 0) (c_ad2 l Z a0 hw hE W2384.old n0a (Nat.le_trans (old_le hO) hd1685) Bx13 (by decide) SS13.exa) W2384.ew (wd hw 180 rfl) (wd hw 50 rfl) (by simp) (by decide) (by decide)) d_prog_1_method_2_109 (wd hw 172 rfl) (wd hw 173 rfl) (wd hw 174 rfl) (wd hw 175 rfl) (wd hw 176 rfl) (wd hw 177 rfl) (wd hw 178 rfl) (wd hw 179 rfl) (by decide) Bx13.1 pd_24 rfl rfl (rest := []) rfl (Nat.le_of_eq rfl) (cells' := 10) (slots' := 53) rfl rfl (by decide) (by decide) ?_
  rintro T2385 h2385 _ W2385 z2385 ⟨rfl, K2385, B2385⟩
  have X2385 : Ext h0 h2385 := ext_keep XQ13 K2385 (all2 la hd1685)
  have P06_13 := (P06.ext XX13).keep2 (wd hw 13 rfl) (wd hw 49 rfl) K2385 Bx13.1 (by decide) Bx13.2.2.2.2.1
  have P013 := SS13.keep2 (wd hw 13 rfl) (wd hw 49 rfl) K2385 Bx13.1 (by decide) Bx13.2.2.2.2.1
  refine Go.pop W2385.cx d_prog_1_method_2_114 rfl ?_
  refine Go.iload W2385.cx d_prog_1_method_2_115 (v := (Int32.ofNat 13)) rfl ?_
  refine Go.iconst W2385.cx d_prog_1_method_2_117 (z := (1 : Int32)) rfl ?_
  refine Go.iadd W2385.cx d_prog_1_method_2_118 ?_
  refine Go.top (show _ = Int32.ofNat 14 from rfl) ?_
  refine Go.istore_n W2385.cx d_prog_1_method_2_119 (L' := #[.val (.ref a), .val (.int sp), .val (.ref a1), .val (.int (Int32.ofNat 14)), .val (.int z4), .val (.int z5), .val (.int (Int32.ofNat 13)), .val (.int sp)]) rfl ?_
  refine Go.iinc W2385.cx d_prog_1_method_2_120 (z := (Int32.ofNat 14)) (L' := #[.val (.ref a), .val (.int sp), .val (.ref a1), .val (.int (Int32.ofNat 14)), .val (.int z4), .val (.int z5), .val (.int (Int32.ofNat 14)), .val (.int sp)]) rfl (rfl) rfl ?_
  refine Go.goto W2385.cx d_prog_1_method_2_123 (by decide) (q := 19) rfl ?_
  have tt13 : trj cs 14 = (false, false) := by show stp (trj cs 13) (cs.getD 13 0) = _; rw [t13, c13]; simp [stp, hs34]
  have hz4_14 : z4 = bi (trj cs 14).1 := by rw [tt13]; exact h4
  have hz5_14 : z5 = bi (trj cs 14).2 := by rw [tt13]; exact h5
  have Sx20 := S.ext X2385
  have sg20 : ∀ j i, i + j = 20 → (∀ t, i ≤ t → t < 20 → ¬ Evt cs sp t) → ∀ (T : State) (s7 : Slot) (z4 z5 : Int32), (s7 = .unset ∨ ∃ x : Int32, s7 = .val (.int x)) → z4 = bi (trj cs i).1 → z5 = bi (trj cs i).2 → Wk NW EL0 n0 Z a0 "com/example/wheal/wheal/FieldValues" "split" prog_1_method_2_code 8 (some (.object "java/util/List")) p l e ({ frames := 6, cells := 14, slots := 77, locals := 110 } : Room) s m #[.ref a, .int sp] below meth c T h2385 [d1685, a1] 10 53 → (∀ (T : State) (s7 : Slot) (z4 z5 : Int32), (s7 = .unset ∨ ∃ x : Int32, s7 = .val (.int x)) → z4 = bi (trj cs 20).1 → z5 = bi (trj cs 20).2 → Wk NW EL0 n0 Z a0 "com/example/wheal/wheal/FieldValues" "split" prog_1_method_2_code 8 (some (.object "java/util/List")) p l e ({ frames := 6, cells := 14, slots := 77, locals := 110 } : Room) s m #[.ref a, .int sp] below meth c T h2385 [d1685, a1] 10 53 → Go p e below (Endp NW EL0 n0 Z below s ({ frames := 6, cells := 14, slots := 77, locals := 110 } : Room).cells ({ frames := 6, cells := 14, slots := 77, locals := 110 } : Room).slots (RV fun w h => ∃ (b d v0 v1 v2 : Addr) (p0 p1 p2 : List Int32), w = .ref b ∧ Ext h0 h ∧ AL1 Z h b d 3 ((((List.replicate 10 .null).set 0 (.ref v0)).set 1 (.ref v1)).set 2 (.ref v2)) ∧ Strp ((cs.drop 0).take 6) p0 ∧ Strp ((cs.drop 7).take 6) p1 ∧ Strp ((cs.drop 14).take 6) p2 ∧ Str Z h v0 p0 ∧ Str Z h v1 p1 ∧ Str Z h v2 p2)) T (mkF m 19 #[.val (.ref a), .val (.int sp), .val (.ref a1), .val (.int (Int32.ofNat 14)), .val (.int z4), .val (.int z5), .val (.int (Int32.ofNat 20)), s7] [])) → Go p e below (Endp NW EL0 n0 Z below s ({ frames := 6, cells := 14, slots := 77, locals := 110 } : Room).cells ({ frames := 6, cells := 14, slots := 77, locals := 110 } : Room).slots (RV fun w h => ∃ (b d v0 v1 v2 : Addr) (p0 p1 p2 : List Int32), w = .ref b ∧ Ext h0 h ∧ AL1 Z h b d 3 ((((List.replicate 10 .null).set 0 (.ref v0)).set 1 (.ref v1)).set 2 (.ref v2)) ∧ Strp ((cs.drop 0).take 6) p0 ∧ Strp ((cs.drop 7).take 6) p1 ∧ Strp ((cs.drop 14).take 6) p2 ∧ Str Z h v0 p0 ∧ Str Z h v1 p1 ∧ Str Z h v2 p2)) T (mkF m 19 #[.val (.ref a), .val (.int sp), .val (.ref a1), .val (.int (Int32.ofNat 14)), .val (.int z4), .val (.int z5), .val (.int (Int32.ofNat i)), s7] []) := by
    intro j
    induction j with
    | zero =>
      intro i hi hn T s7 z4 z5 hs7 h4 h5 W KK
      obtain rfl : i = 20 := by omega
      exact KK T s7 z4 z5 hs7 h4 h5 W
    | succ j ih =>
      intro i hi hn T3000 s7 z4 z5 hs7 h4 h5 W3000 KK
      refine Go.iload W3000.cx d_prog_1_method_2_19 (v := (Int32.ofNat i)) rfl ?_
      refine Go.aload_n W3000.cx d_prog_1_method_2_21 (v := (.ref a)) rfl rfl ?_
      refine Go.invv1 W3000 (strLen (wt := 1) W3000.ew hw hG Sx20 (by decide) (by decide)) d_prog_1_method_2_22 (wd hw 72 rfl) (wd hw 73 rfl) (wd hw 75 rfl) (wd hw 74 rfl) (by decide) Sx20.exa pd_9 rfl rfl (rest := [(.int (Int32.ofNat i))]) rfl (Nat.le_of_eq rfl) (cells' := 10) (slots' := 53) rfl rfl (by decide) (by decide) ?_
      rintro T3001 h3001 _ W3001 z3001 ⟨rfl, e3001⟩
      subst e3001
      refine Go.icge W3001.cx d_prog_1_method_2_25 (by decide) (q := 126) rfl (fun hh => (by first | exact absurd (show Int32.ofNat i < Int32.ofNat cs.length by rw [lt_nat (by omega) (by omega)]; omega) hh | exact absurd hh (show Int32.ofNat i < Int32.ofNat cs.length by rw [lt_nat (by omega) (by omega)]; omega))) (fun _ => ?_)
      refine Go.aload_n W3001.cx d_prog_1_method_2_28 (v := (.ref a)) rfl rfl ?_
      refine Go.iload W3001.cx d_prog_1_method_2_29 (v := (Int32.ofNat i)) rfl ?_
      refine Go.invv1 W3001 (strAt (wt := 0) W3001.ew hw hG i Sx20 (by omega) rfl (by decide) (by decide)) d_prog_1_method_2_31 (wd hw 82 rfl) (wd hw 83 rfl) (wd hw 85 rfl) (wd hw 84 rfl) (by decide) Sx20.exa pd_22 rfl rfl (rest := []) rfl (Nat.le_of_eq rfl) (cells' := 10) (slots' := 53) rfl rfl (by decide) (by decide) ?_
      rintro T3002 h3002 _ W3002 z3002 ⟨rfl, e3002⟩
      subst e3002
      obtain ⟨cc, hcc⟩ : ∃ z : Int32, z = (cs.getD i 0) := ⟨_, rfl⟩
      refine Go.top hcc.symm ?_
      refine Go.istore W3002.cx d_prog_1_method_2_34 (L' := #[.val (.ref a), .val (.int sp), .val (.ref a1), .val (.int (Int32.ofNat 14)), .val (.int z4), .val (.int z5), .val (.int (Int32.ofNat i)), .val (.int cc)]) (by rcases hs7 with rfl | ⟨_, rfl⟩ <;> rfl) ?_
      obtain ⟨⟨q, e0⟩, hqe⟩ : ∃ s, trj cs i = s := ⟨_, rfl⟩
      have hst : trj cs (i + 1) = stp (q, e0) cc := by show stp (trj cs i) (cs.getD i 0) = _; rw [hqe, hcc]
      have hev := hn i (Nat.le_refl _) (by omega)
      unfold Evt at hev
      rw [hqe, ← hcc] at hev
      rw [hqe] at h4 h5
      have b4 := bi_ne h4
      have b5 := bi_ne h5
      have J120 : ∀ (y4 y5 : Int32), y4 = bi (trj cs (i + 1)).1 → y5 = bi (trj cs (i + 1)).2 → ∀ (T : State), Wk NW EL0 n0 Z a0 "com/example/wheal/wheal/FieldValues" "split" prog_1_method_2_code 8 (some (.object "java/util/List")) p l e ({ frames := 6, cells := 14, slots := 77, locals := 110 } : Room) s m #[.ref a, .int sp] below meth c T h2385 [d1685, a1] 10 53 → Go p e below (Endp NW EL0 n0 Z below s ({ frames := 6, cells := 14, slots := 77, locals := 110 } : Room).cells ({ frames := 6, cells := 14, slots := 77, locals := 110 } : Room).slots (RV fun w h => ∃ (b d v0 v1 v2 : Addr) (p0 p1 p2 : List Int32), w = .ref b ∧ Ext h0 h ∧ AL1 Z h b d 3 ((((List.replicate 10 .null).set 0 (.ref v0)).set 1 (.ref v1)).set 2 (.ref v2)) ∧ Strp ((cs.drop 0).take 6) p0 ∧ Strp ((cs.drop 7).take 6) p1 ∧ Strp ((cs.drop 14).take 6) p2 ∧ Str Z h v0 p0 ∧ Str Z h v1 p1 ∧ Str Z h v2 p2)) T (mkF m 120 #[.val (.ref a), .val (.int sp), .val (.ref a1), .val (.int (Int32.ofNat 14)), .val (.int y4), .val (.int y5), .val (.int (Int32.ofNat i)), .val (.int cc)] []) := by
        intro y4 y5 g4 g5 T3050 W3050
        refine Go.iinc W3050.cx d_prog_1_method_2_120 (z := (Int32.ofNat (i + 1))) (L' := #[.val (.ref a), .val (.int sp), .val (.ref a1), .val (.int (Int32.ofNat 14)), .val (.int y4), .val (.int y5), .val (.int (Int32.ofNat (i + 1))), .val (.int cc)]) rfl (add1_nat i) rfl ?_
        refine Go.goto W3050.cx d_prog_1_method_2_123 (by decide) (q := 19) rfl ?_
        exact ih (i + 1) (by omega) (fun t u1 u2 => hn t (by omega) u2) _ _ _ _ (Or.inr ⟨_, rfl⟩) g4 g5 W3050 KK
      cases e0 with
      | true =>
        refine Go.iload W3002.cx d_prog_1_method_2_36 (v := z5) rfl ?_
        refine Go.ifeq W3002.cx d_prog_1_method_2_38 (by decide) (q := 47) rfl (fun hh => (by first | exact absurd (show ¬ z5 = 0 from fun z => Bool.noConfusion (show true = false from b5.mp z)) hh | exact absurd hh (show ¬ z5 = 0 from fun z => Bool.noConfusion (show true = false from b5.mp z)))) (fun _ => ?_)
        refine Go.iconst W3002.cx d_prog_1_method_2_41 (z := (0 : Int32)) rfl ?_
        refine Go.istore W3002.cx d_prog_1_method_2_42 (L' := #[.val (.ref a), .val (.int sp), .val (.ref a1), .val (.int (Int32.ofNat 14)), .val (.int z4), .val (.int (0 : Int32)), .val (.int (Int32.ofNat i)), .val (.int cc)]) rfl ?_
        refine Go.goto W3002.cx d_prog_1_method_2_44 (by decide) (q := 120) rfl ?_
        exact J120 _ _ (by rw [hst]; exact h4) (by rw [hst]; rfl) _ W3002
      | false =>
        refine Go.iload W3002.cx d_prog_1_method_2_36 (v := z5) rfl ?_
        refine Go.ifeq W3002.cx d_prog_1_method_2_38 (by decide) (q := 47) rfl (fun _ => ?_) (fun hh => (by first | exact absurd (show z5 = 0 from b5.mpr rfl) hh | exact absurd hh (show z5 = 0 from b5.mpr rfl)))
        cases q with
        | false =>
          refine Go.iload W3002.cx d_prog_1_method_2_47 (v := z4) rfl ?_
          refine Go.ifeq W3002.cx d_prog_1_method_2_49 (by decide) (q := 65) rfl (fun _ => ?_) (fun hh => (by first | exact absurd (show z4 = 0 from b4.mpr rfl) hh | exact absurd hh (show z4 = 0 from b4.mpr rfl)))
          refine Go.iload W3002.cx d_prog_1_method_2_65 (v := cc) rfl ?_
          refine Go.bipush W3002.cx d_prog_1_method_2_67 (z := (34 : Int32)) rfl ?_
          refine Go.icne W3002.cx d_prog_1_method_2_69 (by decide) (q := 87) rfl (fun d1 => ?_) (fun d1 => ?_)
          · refine Go.iload W3002.cx d_prog_1_method_2_87 (v := cc) rfl ?_
            refine Go.iload_n W3002.cx d_prog_1_method_2_89 (v := sp) rfl ?_
            refine Go.icne W3002.cx d_prog_1_method_2_90 (by decide) (q := 120) rfl (fun d2 => ?_) (fun d2 => ?_)
            · exact J120 _ _ (by rw [hst]; simp [stp, d1]; exact h4) (by rw [hst]; simp [stp, d1]; exact h5) _ W3002
            · exact absurd ⟨rfl, d2⟩ hev
          · refine Go.iload W3002.cx d_prog_1_method_2_72 (v := z4) rfl ?_
            refine Go.ifne W3002.cx d_prog_1_method_2_74 (by decide) (q := 81) rfl (fun hh => (by first | exact absurd (show z4 = 0 from b4.mpr rfl) hh | exact absurd hh (show z4 = 0 from b4.mpr rfl))) (fun _ => ?_)
            refine Go.iconst W3002.cx d_prog_1_method_2_77 (z := (1 : Int32)) rfl ?_
            refine Go.goto W3002.cx d_prog_1_method_2_78 (by decide) (q := 82) rfl ?_
            refine Go.istore W3002.cx d_prog_1_method_2_82 (L' := #[.val (.ref a), .val (.int sp), .val (.ref a1), .val (.int (Int32.ofNat 14)), .val (.int (1 : Int32)), .val (.int z5), .val (.int (Int32.ofNat i)), .val (.int cc)]) rfl ?_
            refine Go.goto W3002.cx d_prog_1_method_2_84 (by decide) (q := 120) rfl ?_
            exact J120 _ _ (by rw [hst]; simp [stp, d1, bi]) (by rw [hst]; simp [stp, d1]; exact h5) _ W3002
        | true =>
          refine Go.iload W3002.cx d_prog_1_method_2_47 (v := z4) rfl ?_
          refine Go.ifeq W3002.cx d_prog_1_method_2_49 (by decide) (q := 65) rfl (fun hh => (by first | exact absurd (show ¬ z4 = 0 from fun z => Bool.noConfusion (show true = false from b4.mp z)) hh | exact absurd hh (show ¬ z4 = 0 from fun z => Bool.noConfusion (show true = false from b4.mp z)))) (fun _ => ?_)
          refine Go.iload W3002.cx d_prog_1_method_2_52 (v := cc) rfl ?_
          refine Go.bipush W3002.cx d_prog_1_method_2_54 (z := (92 : Int32)) rfl ?_
          refine Go.icne W3002.cx d_prog_1_method_2_56 (by decide) (q := 65) rfl (fun d3 => ?_) (fun d3 => ?_)
          · refine Go.iload W3002.cx d_prog_1_method_2_65 (v := cc) rfl ?_
            refine Go.bipush W3002.cx d_prog_1_method_2_67 (z := (34 : Int32)) rfl ?_
            refine Go.icne W3002.cx d_prog_1_method_2_69 (by decide) (q := 87) rfl (fun d1 => ?_) (fun d1 => ?_)
            · refine Go.iload W3002.cx d_prog_1_method_2_87 (v := cc) rfl ?_
              refine Go.iload_n W3002.cx d_prog_1_method_2_89 (v := sp) rfl ?_
              refine Go.icne W3002.cx d_prog_1_method_2_90 (by decide) (q := 120) rfl (fun d2 => ?_) (fun d2 => ?_)
              · exact J120 _ _ (by rw [hst]; simp [stp, d1, d3]; exact h4) (by rw [hst]; simp [stp, d1, d3]; exact h5) _ W3002
              · refine Go.iload W3002.cx d_prog_1_method_2_93 (v := z4) rfl ?_
                refine Go.ifne W3002.cx d_prog_1_method_2_95 (by decide) (q := 120) rfl (fun _ => ?_) (fun hh => (by first | exact absurd (show ¬ z4 = 0 from fun z => Bool.noConfusion (show true = false from b4.mp z)) hh | exact absurd hh (show ¬ z4 = 0 from fun z => Bool.noConfusion (show true = false from b4.mp z))))
                exact J120 _ _ (by rw [hst]; simp [stp, d1, d3]; exact h4) (by rw [hst]; simp [stp, d1, d3]; exact h5) _ W3002
            · refine Go.iload W3002.cx d_prog_1_method_2_72 (v := z4) rfl ?_
              refine Go.ifne W3002.cx d_prog_1_method_2_74 (by decide) (q := 81) rfl (fun _ => ?_) (fun hh => (by first | exact absurd (show ¬ z4 = 0 from fun z => Bool.noConfusion (show true = false from b4.mp z)) hh | exact absurd hh (show ¬ z4 = 0 from fun z => Bool.noConfusion (show true = false from b4.mp z))))
              refine Go.iconst W3002.cx d_prog_1_method_2_81 (z := (0 : Int32)) rfl ?_
              refine Go.istore W3002.cx d_prog_1_method_2_82 (L' := #[.val (.ref a), .val (.int sp), .val (.ref a1), .val (.int (Int32.ofNat 14)), .val (.int (0 : Int32)), .val (.int z5), .val (.int (Int32.ofNat i)), .val (.int cc)]) rfl ?_
              refine Go.goto W3002.cx d_prog_1_method_2_84 (by decide) (q := 120) rfl ?_
              exact J120 _ _ (by rw [hst]; simp [stp, d1, bi]) (by rw [hst]; simp [stp, d1]; exact h5) _ W3002
          · refine Go.iconst W3002.cx d_prog_1_method_2_59 (z := (1 : Int32)) rfl ?_
            refine Go.istore W3002.cx d_prog_1_method_2_60 (L' := #[.val (.ref a), .val (.int sp), .val (.ref a1), .val (.int (Int32.ofNat 14)), .val (.int z4), .val (.int (1 : Int32)), .val (.int (Int32.ofNat i)), .val (.int cc)]) rfl ?_
            refine Go.goto W3002.cx d_prog_1_method_2_62 (by decide) (q := 120) rfl ?_
            exact J120 _ _ (by rw [hst]; simp [stp, d3]; exact h4) (by rw [hst]; simp [stp, d3, bi]) _ W3002
  refine sg20 6 14 rfl (fun t u v => ne20 t u v) _ _ _ _ (Or.inr ⟨_, rfl⟩) hz4_14 hz5_14 W2385 ?_
  intro T3080 s7 z4 z5 hs7 h4 h5 W3080
  refine Go.iload W3080.cx d_prog_1_method_2_19 (v := (Int32.ofNat 20)) rfl ?_
  refine Go.aload_n W3080.cx d_prog_1_method_2_21 (v := (.ref a)) rfl rfl ?_
  refine Go.invv1 W3080 (strLen (wt := 1) W3080.ew hw hG Sx20 (by decide) (by decide)) d_prog_1_method_2_22 (wd hw 72 rfl) (wd hw 73 rfl) (wd hw 75 rfl) (wd hw 74 rfl) (by decide) Sx20.exa pd_9 rfl rfl (rest := [(.int (Int32.ofNat 20))]) rfl (Nat.le_of_eq rfl) (cells' := 10) (slots' := 53) rfl rfl (by decide) (by decide) ?_
  rintro T3081 h3081 _ W3081 z3081 ⟨rfl, e3081⟩
  subst e3081
  refine Go.icge W3081.cx d_prog_1_method_2_25 (by decide) (q := 126) rfl (fun _ => ?_) (fun hh => (by first | exact absurd (show ¬ Int32.ofNat 20 < Int32.ofNat cs.length by rw [lt_nat (by omega) (by omega)]; omega) hh | exact absurd hh (show ¬ Int32.ofNat 20 < Int32.ofNat cs.length by rw [lt_nat (by omega) (by omega)]; omega)))
  refine Go.aload_n W3081.cx d_prog_1_method_2_126 (v := (.ref a1)) rfl rfl ?_
  refine Go.aload_n W3081.cx d_prog_1_method_2_127 (v := (.ref a)) rfl rfl ?_
  refine Go.iload_n W3081.cx d_prog_1_method_2_128 (v := (Int32.ofNat 14)) rfl ?_
  refine Go.invv1 W3081 (Ctr.call (wt := 1) (c_sub1 l Z a0 hw hE W3081.old hG Sx20 (f := 14) (by decide) (by omega) (by omega) (by omega)) W3081.ew (wd hw 210 rfl) (wd hw 14 rfl) (by simp) (by decide) (by decide)) d_prog_1_method_2_129 (wd hw 206 rfl) (wd hw 207 rfl) (wd hw 209 rfl) (wd hw 208 rfl) (by decide) Sx20.exa pd_25 rfl rfl (rest := [(.ref a1)]) rfl (Nat.le_of_eq rfl) (cells' := 12) (slots' := 63) rfl rfl (by decide) (by decide) ?_
  rintro T3082 h3082 _ W3082 z3082 ⟨r3082, rfl, E3082, S3082⟩
  rw [show cs.length - 14 = 6 by omega] at S3082
  have hl3082 : ((cs.drop 14).take 6).length = 6 := by rw [List.length_take, List.length_drop]; omega
  refine Go.invv1 W3082 (Ctr.call (wt := 1) (c_strip l Z a0 hw hE W3082.old hG hL S3082 (by rw [show ((cs.drop 14).take _).length = 6 from hl3082]; decide)) W3082.ew (wd hw 145 rfl) (wd hw 14 rfl) (by simp) (by decide) (by decide)) d_prog_1_method_2_132 (wd hw 141 rfl) (wd hw 142 rfl) (wd hw 144 rfl) (wd hw 143 rfl) (by decide) S3082.exa pd_23 rfl rfl (rest := [(.ref a1)]) rfl (Nat.le_of_eq rfl) (cells' := 14) (slots' := 73) rfl rfl (by decide) (by decide) ?_
  rintro T3083 h3083 _ W3083 z3083 ⟨i3083, j3083, r3083, rfl, P3083, E3083, S3083⟩
  obtain ⟨p20, hp20⟩ : ∃ p, p = ((((cs.drop 14).take 6).drop i3083).take (j3083 - i3083)) := ⟨_, rfl⟩
  have SP20 : Strp ((cs.drop 14).take 6) p20 := ⟨i3083, j3083, P3083, hp20⟩
  have SS20 : Str Z h3083 r3083 p20 := by rw [hp20]; exact S3083
  have XX20 := ext_trans E3082 E3083
  have XQ20 := ext_trans X2385 XX20
  have Bx20 := B2385.ext XX20
  refine Go.invf1 (y := (⟨"java/util/List", "add", "(Ljava/lang/Object;)Z"⟩ : MethodName)) W3083 (Ctr.call (wt := 0) (c_ad2 l Z a0 hw hE W3083.old n0a (Nat.le_trans (old_le hO) hd1685) Bx20 (by decide) SS20.exa) W3083.ew (wd hw 180 rfl) (wd hw 50 rfl) (by simp) (by decide) (by decide)) d_prog_1_method_2_135 (wd hw 172 rfl) (wd hw 173 rfl) (wd hw 174 rfl) (wd hw 175 rfl) (wd hw 176 rfl) (wd hw 177 rfl) (wd hw 178 rfl) (wd hw 179 rfl) (by decide) Bx20.1 pd_24 rfl rfl (rest := []) rfl (Nat.le_of_eq rfl) (cells' := 14) (slots' := 73) rfl rfl (by decide) (by decide) ?_
  rintro T3084 h3084 _ W3084 z3084 ⟨rfl, K3084, B3084⟩
  have X3084 : Ext h0 h3084 := ext_keep XQ20 K3084 (all2 la hd1685)
  have P06_13_20 := (P06_13.ext XX20).keep2 (wd hw 13 rfl) (wd hw 49 rfl) K3084 Bx20.1 (by decide) Bx20.2.2.2.2.1
  have P013_20 := (P013.ext XX20).keep2 (wd hw 13 rfl) (wd hw 49 rfl) K3084 Bx20.1 (by decide) Bx20.2.2.2.2.1
  have P020 := SS20.keep2 (wd hw 13 rfl) (wd hw 49 rfl) K3084 Bx20.1 (by decide) Bx20.2.2.2.2.1
  refine Go.pop W3084.cx d_prog_1_method_2_140 rfl ?_
  refine Go.aload_n W3084.cx d_prog_1_method_2_141 (v := (.ref a1)) rfl rfl ?_
  exact Go.aret W3084 d_prog_1_method_2_142 rfl rfl rfl (by decide) (by decide) ⟨_, rfl, a1, _, r1684, r2384, r3083, p6, p13, p20, rfl, X3084, B3084, SP6, SP13, SP20, P06_13_20, P013_20, P020⟩
theorem pn_10 : plainName "com/example/wheal/wheal/FieldValuesSplitPinLaw" = true := by first | (simp [plainName, overriddenIn]; done) | decide +kernel
theorem d_method_2_0 : Dec method_2_code 0 (.iload_n 0) 1 1 := ⟨by decide +kernel, rfl⟩
theorem d_method_2_1 : Dec method_2_code 1 (.ifCond .ne 6) 3 4 := ⟨by decide +kernel, rfl⟩
theorem d_method_2_7 : Dec method_2_code 7 (.iload_n 0) 1 8 := ⟨by decide +kernel, rfl⟩
theorem d_method_2_8 : Dec method_2_code 8 (.iconst 1) 1 9 := ⟨by decide +kernel, rfl⟩
theorem d_method_2_9 : Dec method_2_code 9 (.if_icmp .ne 6) 3 12 := ⟨by decide +kernel, rfl⟩
theorem d_method_2_15 : Dec method_2_code 15 (.iload_n 0) 1 16 := ⟨by decide +kernel, rfl⟩
theorem d_method_2_16 : Dec method_2_code 16 (.iconst 2) 1 17 := ⟨by decide +kernel, rfl⟩
theorem d_method_2_17 : Dec method_2_code 17 (.if_icmp .ne 6) 3 20 := ⟨by decide +kernel, rfl⟩
theorem d_method_2_23 : Dec method_2_code 23 (.iload_n 0) 1 24 := ⟨by decide +kernel, rfl⟩
theorem d_method_2_24 : Dec method_2_code 24 (.iconst 3) 1 25 := ⟨by decide +kernel, rfl⟩
theorem d_method_2_25 : Dec method_2_code 25 (.if_icmp .ne 6) 3 28 := ⟨by decide +kernel, rfl⟩
theorem d_method_2_31 : Dec method_2_code 31 (.iload_n 0) 1 32 := ⟨by decide +kernel, rfl⟩
theorem d_method_2_32 : Dec method_2_code 32 (.iconst 4) 1 33 := ⟨by decide +kernel, rfl⟩
theorem d_method_2_33 : Dec method_2_code 33 (.if_icmp .ne 6) 3 36 := ⟨by decide +kernel, rfl⟩
theorem d_method_2_39 : Dec method_2_code 39 (.iload_n 0) 1 40 := ⟨by decide +kernel, rfl⟩
theorem d_method_2_40 : Dec method_2_code 40 (.iconst 5) 1 41 := ⟨by decide +kernel, rfl⟩
theorem d_method_2_41 : Dec method_2_code 41 (.if_icmp .ne 6) 3 44 := ⟨by decide +kernel, rfl⟩
theorem d_method_2_47 : Dec method_2_code 47 (.iload_n 0) 1 48 := ⟨by decide +kernel, rfl⟩
theorem d_method_2_48 : Dec method_2_code 48 (.bipush 6) 2 50 := ⟨by decide +kernel, rfl⟩
theorem d_method_2_50 : Dec method_2_code 50 (.if_icmp .ne 6) 3 53 := ⟨by decide +kernel, rfl⟩
theorem d_method_2_56 : Dec method_2_code 56 (.bipush 31) 2 58 := ⟨by decide +kernel, rfl⟩
theorem d_method_2_58 : Dec method_2_code 58 (.ireturn) 1 59 := ⟨by decide +kernel, rfl⟩
theorem d_method_2_53 : Dec method_2_code 53 (.bipush 28) 2 55 := ⟨by decide +kernel, rfl⟩
theorem d_method_2_55 : Dec method_2_code 55 (.ireturn) 1 56 := ⟨by decide +kernel, rfl⟩
theorem d_method_2_44 : Dec method_2_code 44 (.bipush 12) 2 46 := ⟨by decide +kernel, rfl⟩
theorem d_method_2_46 : Dec method_2_code 46 (.ireturn) 1 47 := ⟨by decide +kernel, rfl⟩
theorem d_method_2_36 : Dec method_2_code 36 (.bipush 11) 2 38 := ⟨by decide +kernel, rfl⟩
theorem d_method_2_38 : Dec method_2_code 38 (.ireturn) 1 39 := ⟨by decide +kernel, rfl⟩
theorem d_method_2_28 : Dec method_2_code 28 (.bipush 13) 2 30 := ⟨by decide +kernel, rfl⟩
theorem d_method_2_30 : Dec method_2_code 30 (.ireturn) 1 31 := ⟨by decide +kernel, rfl⟩
theorem d_method_2_20 : Dec method_2_code 20 (.bipush 10) 2 22 := ⟨by decide +kernel, rfl⟩
theorem d_method_2_22 : Dec method_2_code 22 (.ireturn) 1 23 := ⟨by decide +kernel, rfl⟩
theorem d_method_2_12 : Dec method_2_code 12 (.bipush 9) 2 14 := ⟨by decide +kernel, rfl⟩
theorem d_method_2_14 : Dec method_2_code 14 (.ireturn) 1 15 := ⟨by decide +kernel, rfl⟩
theorem d_method_2_4 : Dec method_2_code 4 (.bipush 32) 2 6 := ⟨by decide +kernel, rfl⟩
theorem d_method_2_6 : Dec method_2_code 6 (.ireturn) 1 7 := ⟨by decide +kernel, rfl⟩
set_option maxRecDepth 65536 in
set_option maxHeartbeats 40000000 in
theorem c_wsl (l : Launch) (Z : State) (a0 : Array Value) (hw : ∀ d ∈ tables_1, d.before a0 Z = true) (hE : EW Z a0 EL0) {n0 : Nat} {h0 : Heap} (hO : Old Z n0 h0) (x : Int32) :
    Ctr NW EL0 n0 Z [] l (⟨"com/example/wheal/wheal/FieldValuesSplitPinLaw", "ws", "(I)C"⟩ : MethodName) method_2_code 1 (some .char) ({ frames := 0, cells := 0, slots := 0, locals := 0 } : Room) #[.int x] h0 (RV fun w h => ∃ v : Int32, w = .int v ∧ wsP v ∧ h0 = h) := by
  refine Ctr.body (plainFor_of_name pn_10) hE hO (fun x q => nomatch q) (L0 := #[.val (.int x)]) (fun m => by first | (simp [entryFrame, mkF, argsToLocals, Value.category, maxLocals]; done) | rfl) ?_
  intro p e s m below meth c T0 W0
  refine Go.iload_n W0.cx d_method_2_0 (v := x) rfl ?_
  refine Go.ifne W0.cx d_method_2_1 (by decide) (q := 7) rfl (fun c0 => ?_) (fun c0 => ?_)
  · refine Go.iload_n W0.cx d_method_2_7 (v := x) rfl ?_
    refine Go.iconst W0.cx d_method_2_8 (z := (1 : Int32)) rfl ?_
    refine Go.icne W0.cx d_method_2_9 (by decide) (q := 15) rfl (fun c1 => ?_) (fun c1 => ?_)
    · refine Go.iload_n W0.cx d_method_2_15 (v := x) rfl ?_
      refine Go.iconst W0.cx d_method_2_16 (z := (2 : Int32)) rfl ?_
      refine Go.icne W0.cx d_method_2_17 (by decide) (q := 23) rfl (fun c2 => ?_) (fun c2 => ?_)
      · refine Go.iload_n W0.cx d_method_2_23 (v := x) rfl ?_
        refine Go.iconst W0.cx d_method_2_24 (z := (3 : Int32)) rfl ?_
        refine Go.icne W0.cx d_method_2_25 (by decide) (q := 31) rfl (fun c3 => ?_) (fun c3 => ?_)
        · refine Go.iload_n W0.cx d_method_2_31 (v := x) rfl ?_
          refine Go.iconst W0.cx d_method_2_32 (z := (4 : Int32)) rfl ?_
          refine Go.icne W0.cx d_method_2_33 (by decide) (q := 39) rfl (fun c4 => ?_) (fun c4 => ?_)
          · refine Go.iload_n W0.cx d_method_2_39 (v := x) rfl ?_
            refine Go.iconst W0.cx d_method_2_40 (z := (5 : Int32)) rfl ?_
            refine Go.icne W0.cx d_method_2_41 (by decide) (q := 47) rfl (fun c5 => ?_) (fun c5 => ?_)
            · refine Go.iload_n W0.cx d_method_2_47 (v := x) rfl ?_
              refine Go.bipush W0.cx d_method_2_48 (z := (6 : Int32)) rfl ?_
              refine Go.icne W0.cx d_method_2_50 (by decide) (q := 56) rfl (fun c6 => ?_) (fun c6 => ?_)
              · refine Go.bipush W0.cx d_method_2_56 (z := (31 : Int32)) rfl ?_
                exact Go.iret W0 d_method_2_58 (by simp) rfl (by decide) (by decide) ⟨_, rfl, _, rfl, by decide, rfl⟩
              · refine Go.bipush W0.cx d_method_2_53 (z := (28 : Int32)) rfl ?_
                exact Go.iret W0 d_method_2_55 (by simp) rfl (by decide) (by decide) ⟨_, rfl, _, rfl, by decide, rfl⟩
            · refine Go.bipush W0.cx d_method_2_44 (z := (12 : Int32)) rfl ?_
              exact Go.iret W0 d_method_2_46 (by simp) rfl (by decide) (by decide) ⟨_, rfl, _, rfl, by decide, rfl⟩
          · refine Go.bipush W0.cx d_method_2_36 (z := (11 : Int32)) rfl ?_
            exact Go.iret W0 d_method_2_38 (by simp) rfl (by decide) (by decide) ⟨_, rfl, _, rfl, by decide, rfl⟩
        · refine Go.bipush W0.cx d_method_2_28 (z := (13 : Int32)) rfl ?_
          exact Go.iret W0 d_method_2_30 (by simp) rfl (by decide) (by decide) ⟨_, rfl, _, rfl, by decide, rfl⟩
      · refine Go.bipush W0.cx d_method_2_20 (z := (10 : Int32)) rfl ?_
        exact Go.iret W0 d_method_2_22 (by simp) rfl (by decide) (by decide) ⟨_, rfl, _, rfl, by decide, rfl⟩
    · refine Go.bipush W0.cx d_method_2_12 (z := (9 : Int32)) rfl ?_
      exact Go.iret W0 d_method_2_14 (by simp) rfl (by decide) (by decide) ⟨_, rfl, _, rfl, by decide, rfl⟩
  · refine Go.bipush W0.cx d_method_2_4 (z := (32 : Int32)) rfl ?_
    exact Go.iret W0 d_method_2_6 (by simp) rfl (by decide) (by decide) ⟨_, rfl, _, rfl, by decide, rfl⟩
def coreL (k : Nat) (x y : Int32) : List Int32 := match k with
  | 0 => []
  | 1 => [x]
  | 2 => [34, y, 34]
  | 3 => [34, 92, 34, y, 34]
  | 4 => [34, 92, 92, 34]
  | 5 => [x, 34, y, 34, x]
  | 6 => [34, y, x, y]
  | _ => [34, 92, 34, y]
theorem d_method_3_0 : Dec method_3_code 0 (.iload_n 0) 1 1 := ⟨by decide +kernel, rfl⟩
theorem d_method_3_1 : Dec method_3_code 1 (.ifCond .ne 7) 3 4 := ⟨by decide +kernel, rfl⟩
theorem d_method_3_4 : Dec method_3_code 4 (.iconst 0) 1 5 := ⟨by decide +kernel, rfl⟩
theorem d_method_3_5 : Dec method_3_code 5 (.newarray .char) 2 7 := ⟨by decide +kernel, rfl⟩
theorem d_method_3_7 : Dec method_3_code 7 (.areturn) 1 8 := ⟨by decide +kernel, rfl⟩
set_option maxRecDepth 65536 in
set_option maxHeartbeats 40000000 in
theorem c_core0 (l : Launch) (Z : State) (a0 : Array Value) (hw : ∀ d ∈ tables_1, d.before a0 Z = true) (hE : EW Z a0 EL0) {n0 : Nat} {h0 : Heap} (hO : Old Z n0 h0) {x y : Int32} (hx : ¬ x < 0 ∧ ¬ (255 : Int32) < x) (hy : ¬ y < 0 ∧ ¬ (255 : Int32) < y) :
    Ctr NW EL0 n0 Z [] l (⟨"com/example/wheal/wheal/FieldValuesSplitPinLaw", "core", "(ICC)[C"⟩ : MethodName) method_3_code 3 (some (.array .char)) ({ frames := 0, cells := 1, slots := 5, locals := 0 } : Room) #[.int (Int32.ofNat 0), .int x, .int y] h0 (RV fun w h => ∃ r kr, w = .ref r ∧ Ext h0 h ∧ h0.size ≤ r ∧ CArr Z h r kr (coreL 0 x y)) := by
  refine Ctr.body (plainFor_of_name pn_10) hE hO (fun x q => nomatch q) (L0 := #[.val (.int (Int32.ofNat 0)), .val (.int x), .val (.int y)]) (fun m => by first | (simp [entryFrame, mkF, argsToLocals, Value.category, maxLocals]; done) | rfl) ?_
  intro p e s m below meth c T0 W0
  refine Go.iload_n W0.cx d_method_3_0 (v := (Int32.ofNat 0)) rfl ?_
  refine Go.ifne W0.cx d_method_3_1 (by decide) (q := 8) rfl (fun hh => (by first | exact absurd (by decide : Int32.ofNat 0 = 0) hh | exact absurd hh (by decide : Int32.ofNat 0 = 0))) (fun _ => ?_)
  refine Go.iconst W0.cx d_method_3_4 (z := (0 : Int32)) rfl ?_
  refine Go.newarr W0 d_method_3_5 (wd hw 8 rfl) (z := (0 : Int32)) (cap := 0) (by decide) (by decide) (by decide) (cells' := 1) (slots' := 0) rfl rfl (by decide) (by decide) ?_
  intro T1 h1 a1 ka1 g1 W1 E1 A1
  have V1 : CArr Z h1 a1 ka1 [] := CArr.of_new A1 (k := 0) rfl rfl
  exact Go.aret W1 d_method_3_7 rfl rfl rfl (by decide) (by decide) ⟨_, rfl, _, _, rfl, E1, Nat.le_of_eq g1.symm, V1⟩
theorem d_method_3_8 : Dec method_3_code 8 (.iload_n 0) 1 9 := ⟨by decide +kernel, rfl⟩
theorem d_method_3_9 : Dec method_3_code 9 (.iconst 1) 1 10 := ⟨by decide +kernel, rfl⟩
theorem d_method_3_10 : Dec method_3_code 10 (.if_icmp .ne 11) 3 13 := ⟨by decide +kernel, rfl⟩
theorem d_method_3_13 : Dec method_3_code 13 (.iconst 1) 1 14 := ⟨by decide +kernel, rfl⟩
theorem d_method_3_14 : Dec method_3_code 14 (.newarray .char) 2 16 := ⟨by decide +kernel, rfl⟩
theorem d_method_3_16 : Dec method_3_code 16 (.dup) 1 17 := ⟨by decide +kernel, rfl⟩
theorem d_method_3_17 : Dec method_3_code 17 (.iconst 0) 1 18 := ⟨by decide +kernel, rfl⟩
theorem d_method_3_18 : Dec method_3_code 18 (.iload_n 1) 1 19 := ⟨by decide +kernel, rfl⟩
theorem d_method_3_19 : Dec method_3_code 19 (.castore) 1 20 := ⟨by decide +kernel, rfl⟩
theorem d_method_3_20 : Dec method_3_code 20 (.areturn) 1 21 := ⟨by decide +kernel, rfl⟩
set_option maxRecDepth 65536 in
set_option maxHeartbeats 40000000 in
theorem c_core1 (l : Launch) (Z : State) (a0 : Array Value) (hw : ∀ d ∈ tables_1, d.before a0 Z = true) (hE : EW Z a0 EL0) {n0 : Nat} {h0 : Heap} (hO : Old Z n0 h0) {x y : Int32} (hx : ¬ x < 0 ∧ ¬ (255 : Int32) < x) (hy : ¬ y < 0 ∧ ¬ (255 : Int32) < y) :
    Ctr NW EL0 n0 Z [] l (⟨"com/example/wheal/wheal/FieldValuesSplitPinLaw", "core", "(ICC)[C"⟩ : MethodName) method_3_code 3 (some (.array .char)) ({ frames := 0, cells := 1, slots := 5, locals := 0 } : Room) #[.int (Int32.ofNat 1), .int x, .int y] h0 (RV fun w h => ∃ r kr, w = .ref r ∧ Ext h0 h ∧ h0.size ≤ r ∧ CArr Z h r kr (coreL 1 x y)) := by
  refine Ctr.body (plainFor_of_name pn_10) hE hO (fun x q => nomatch q) (L0 := #[.val (.int (Int32.ofNat 1)), .val (.int x), .val (.int y)]) (fun m => by first | (simp [entryFrame, mkF, argsToLocals, Value.category, maxLocals]; done) | rfl) ?_
  intro p e s m below meth c T0 W0
  refine Go.iload_n W0.cx d_method_3_0 (v := (Int32.ofNat 1)) rfl ?_
  refine Go.ifne W0.cx d_method_3_1 (by decide) (q := 8) rfl (fun _ => ?_) (fun hh => (by first | exact absurd (by decide : ¬ Int32.ofNat 1 = 0) hh | exact absurd hh (by decide : ¬ Int32.ofNat 1 = 0)))
  refine Go.iload_n W0.cx d_method_3_8 (v := (Int32.ofNat 1)) rfl ?_
  refine Go.iconst W0.cx d_method_3_9 (z := (1 : Int32)) rfl ?_
  refine Go.icne W0.cx d_method_3_10 (by decide) (q := 21) rfl (fun hh => (by first | exact absurd (by decide : Int32.ofNat 1 = 1) hh | exact absurd hh (by decide : Int32.ofNat 1 = 1))) (fun _ => ?_)
  refine Go.iconst W0.cx d_method_3_13 (z := (1 : Int32)) rfl ?_
  refine Go.newarr W0 d_method_3_14 (wd hw 8 rfl) (z := (1 : Int32)) (cap := 1) (by decide) (by decide) (by decide) (cells' := 1) (slots' := 1) rfl rfl (by decide) (by decide) ?_
  intro T1 h1 a1 ka1 g1 W1 E1 A1
  have V1 : CArr Z h1 a1 ka1 [0] := CArr.of_new A1 (k := 1) rfl rfl
  refine Go.dup W1.cx d_method_3_16 rfl ?_
  refine Go.iconst W1.cx d_method_3_17 (z := (0 : Int32)) rfl ?_
  refine Go.iload_n W1.cx d_method_3_18 (v := x) rfl ?_
  refine Go.castore W1 0 d_method_3_19 V1 (by simp) rfl (Nat.le_of_ble_eq_true rfl) (Nat.le_of_ble_eq_true rfl) (x' := x) (nar_ch hx) ?_
  intro T2 h2 W2 K2 V2
  have V2 : CArr Z h2 a1 ka1 [x] := V2
  have X2 : Ext h0 h2 := ext_keep E1 K2 (all1 (Nat.le_of_eq g1.symm))
  exact Go.aret W2 d_method_3_20 rfl rfl rfl (by decide) (by decide) ⟨_, rfl, _, _, rfl, X2, Nat.le_of_eq g1.symm, V2⟩
theorem d_method_3_21 : Dec method_3_code 21 (.iload_n 0) 1 22 := ⟨by decide +kernel, rfl⟩
theorem d_method_3_22 : Dec method_3_code 22 (.iconst 2) 1 23 := ⟨by decide +kernel, rfl⟩
theorem d_method_3_23 : Dec method_3_code 23 (.if_icmp .ne 21) 3 26 := ⟨by decide +kernel, rfl⟩
theorem d_method_3_26 : Dec method_3_code 26 (.iconst 3) 1 27 := ⟨by decide +kernel, rfl⟩
theorem d_method_3_27 : Dec method_3_code 27 (.newarray .char) 2 29 := ⟨by decide +kernel, rfl⟩
theorem d_method_3_29 : Dec method_3_code 29 (.dup) 1 30 := ⟨by decide +kernel, rfl⟩
theorem d_method_3_30 : Dec method_3_code 30 (.iconst 0) 1 31 := ⟨by decide +kernel, rfl⟩
theorem d_method_3_31 : Dec method_3_code 31 (.bipush 34) 2 33 := ⟨by decide +kernel, rfl⟩
theorem d_method_3_33 : Dec method_3_code 33 (.castore) 1 34 := ⟨by decide +kernel, rfl⟩
theorem d_method_3_34 : Dec method_3_code 34 (.dup) 1 35 := ⟨by decide +kernel, rfl⟩
theorem d_method_3_35 : Dec method_3_code 35 (.iconst 1) 1 36 := ⟨by decide +kernel, rfl⟩
theorem d_method_3_36 : Dec method_3_code 36 (.iload_n 2) 1 37 := ⟨by decide +kernel, rfl⟩
theorem d_method_3_37 : Dec method_3_code 37 (.castore) 1 38 := ⟨by decide +kernel, rfl⟩
theorem d_method_3_38 : Dec method_3_code 38 (.dup) 1 39 := ⟨by decide +kernel, rfl⟩
theorem d_method_3_39 : Dec method_3_code 39 (.iconst 2) 1 40 := ⟨by decide +kernel, rfl⟩
theorem d_method_3_40 : Dec method_3_code 40 (.bipush 34) 2 42 := ⟨by decide +kernel, rfl⟩
theorem d_method_3_42 : Dec method_3_code 42 (.castore) 1 43 := ⟨by decide +kernel, rfl⟩
theorem d_method_3_43 : Dec method_3_code 43 (.areturn) 1 44 := ⟨by decide +kernel, rfl⟩
set_option maxRecDepth 65536 in
set_option maxHeartbeats 40000000 in
theorem c_core2 (l : Launch) (Z : State) (a0 : Array Value) (hw : ∀ d ∈ tables_1, d.before a0 Z = true) (hE : EW Z a0 EL0) {n0 : Nat} {h0 : Heap} (hO : Old Z n0 h0) {x y : Int32} (hx : ¬ x < 0 ∧ ¬ (255 : Int32) < x) (hy : ¬ y < 0 ∧ ¬ (255 : Int32) < y) :
    Ctr NW EL0 n0 Z [] l (⟨"com/example/wheal/wheal/FieldValuesSplitPinLaw", "core", "(ICC)[C"⟩ : MethodName) method_3_code 3 (some (.array .char)) ({ frames := 0, cells := 1, slots := 5, locals := 0 } : Room) #[.int (Int32.ofNat 2), .int x, .int y] h0 (RV fun w h => ∃ r kr, w = .ref r ∧ Ext h0 h ∧ h0.size ≤ r ∧ CArr Z h r kr (coreL 2 x y)) := by
  refine Ctr.body (plainFor_of_name pn_10) hE hO (fun x q => nomatch q) (L0 := #[.val (.int (Int32.ofNat 2)), .val (.int x), .val (.int y)]) (fun m => by first | (simp [entryFrame, mkF, argsToLocals, Value.category, maxLocals]; done) | rfl) ?_
  intro p e s m below meth c T0 W0
  refine Go.iload_n W0.cx d_method_3_0 (v := (Int32.ofNat 2)) rfl ?_
  refine Go.ifne W0.cx d_method_3_1 (by decide) (q := 8) rfl (fun _ => ?_) (fun hh => (by first | exact absurd (by decide : ¬ Int32.ofNat 2 = 0) hh | exact absurd hh (by decide : ¬ Int32.ofNat 2 = 0)))
  refine Go.iload_n W0.cx d_method_3_8 (v := (Int32.ofNat 2)) rfl ?_
  refine Go.iconst W0.cx d_method_3_9 (z := (1 : Int32)) rfl ?_
  refine Go.icne W0.cx d_method_3_10 (by decide) (q := 21) rfl (fun _ => ?_) (fun hh => (by first | exact absurd (by decide : ¬ Int32.ofNat 2 = 1) hh | exact absurd hh (by decide : ¬ Int32.ofNat 2 = 1)))
  refine Go.iload_n W0.cx d_method_3_21 (v := (Int32.ofNat 2)) rfl ?_
  refine Go.iconst W0.cx d_method_3_22 (z := (2 : Int32)) rfl ?_
  refine Go.icne W0.cx d_method_3_23 (by decide) (q := 44) rfl (fun hh => (by first | exact absurd (by decide : Int32.ofNat 2 = 2) hh | exact absurd hh (by decide : Int32.ofNat 2 = 2))) (fun _ => ?_)
  refine Go.iconst W0.cx d_method_3_26 (z := (3 : Int32)) rfl ?_
  refine Go.newarr W0 d_method_3_27 (wd hw 8 rfl) (z := (3 : Int32)) (cap := 3) (by decide) (by decide) (by decide) (cells' := 1) (slots' := 3) rfl rfl (by decide) (by decide) ?_
  intro T1 h1 a1 ka1 g1 W1 E1 A1
  have V1 : CArr Z h1 a1 ka1 [0, 0, 0] := CArr.of_new A1 (k := 3) rfl rfl
  refine Go.dup W1.cx d_method_3_29 rfl ?_
  refine Go.iconst W1.cx d_method_3_30 (z := (0 : Int32)) rfl ?_
  refine Go.bipush W1.cx d_method_3_31 (z := (34 : Int32)) rfl ?_
  refine Go.castore W1 0 d_method_3_33 V1 (by simp) rfl (Nat.le_of_ble_eq_true rfl) (Nat.le_of_ble_eq_true rfl) (x' := (34 : Int32)) (nar_ch (by decide)) ?_
  intro T2 h2 W2 K2 V2
  have V2 : CArr Z h2 a1 ka1 [(34 : Int32), 0, 0] := V2
  have X2 : Ext h0 h2 := ext_keep E1 K2 (all1 (Nat.le_of_eq g1.symm))
  refine Go.dup W2.cx d_method_3_34 rfl ?_
  refine Go.iconst W2.cx d_method_3_35 (z := (1 : Int32)) rfl ?_
  refine Go.iload_n W2.cx d_method_3_36 (v := y) rfl ?_
  refine Go.castore W2 1 d_method_3_37 V2 (by simp) rfl (Nat.le_of_ble_eq_true rfl) (Nat.le_of_ble_eq_true rfl) (x' := y) (nar_ch hy) ?_
  intro T3 h3 W3 K3 V3
  have V3 : CArr Z h3 a1 ka1 [(34 : Int32), y, 0] := V3
  have X3 : Ext h0 h3 := ext_keep X2 K3 (all1 (Nat.le_of_eq g1.symm))
  refine Go.dup W3.cx d_method_3_38 rfl ?_
  refine Go.iconst W3.cx d_method_3_39 (z := (2 : Int32)) rfl ?_
  refine Go.bipush W3.cx d_method_3_40 (z := (34 : Int32)) rfl ?_
  refine Go.castore W3 2 d_method_3_42 V3 (by simp) rfl (Nat.le_of_ble_eq_true rfl) (Nat.le_of_ble_eq_true rfl) (x' := (34 : Int32)) (nar_ch (by decide)) ?_
  intro T4 h4 W4 K4 V4
  have V4 : CArr Z h4 a1 ka1 [(34 : Int32), y, (34 : Int32)] := V4
  have X4 : Ext h0 h4 := ext_keep X3 K4 (all1 (Nat.le_of_eq g1.symm))
  exact Go.aret W4 d_method_3_43 rfl rfl rfl (by decide) (by decide) ⟨_, rfl, _, _, rfl, X4, Nat.le_of_eq g1.symm, V4⟩
theorem d_method_3_44 : Dec method_3_code 44 (.iload_n 0) 1 45 := ⟨by decide +kernel, rfl⟩
theorem d_method_3_45 : Dec method_3_code 45 (.iconst 3) 1 46 := ⟨by decide +kernel, rfl⟩
theorem d_method_3_46 : Dec method_3_code 46 (.if_icmp .ne 31) 3 49 := ⟨by decide +kernel, rfl⟩
theorem d_method_3_49 : Dec method_3_code 49 (.iconst 5) 1 50 := ⟨by decide +kernel, rfl⟩
theorem d_method_3_50 : Dec method_3_code 50 (.newarray .char) 2 52 := ⟨by decide +kernel, rfl⟩
theorem d_method_3_52 : Dec method_3_code 52 (.dup) 1 53 := ⟨by decide +kernel, rfl⟩
theorem d_method_3_53 : Dec method_3_code 53 (.iconst 0) 1 54 := ⟨by decide +kernel, rfl⟩
theorem d_method_3_54 : Dec method_3_code 54 (.bipush 34) 2 56 := ⟨by decide +kernel, rfl⟩
theorem d_method_3_56 : Dec method_3_code 56 (.castore) 1 57 := ⟨by decide +kernel, rfl⟩
theorem d_method_3_57 : Dec method_3_code 57 (.dup) 1 58 := ⟨by decide +kernel, rfl⟩
theorem d_method_3_58 : Dec method_3_code 58 (.iconst 1) 1 59 := ⟨by decide +kernel, rfl⟩
theorem d_method_3_59 : Dec method_3_code 59 (.bipush 92) 2 61 := ⟨by decide +kernel, rfl⟩
theorem d_method_3_61 : Dec method_3_code 61 (.castore) 1 62 := ⟨by decide +kernel, rfl⟩
theorem d_method_3_62 : Dec method_3_code 62 (.dup) 1 63 := ⟨by decide +kernel, rfl⟩
theorem d_method_3_63 : Dec method_3_code 63 (.iconst 2) 1 64 := ⟨by decide +kernel, rfl⟩
theorem d_method_3_64 : Dec method_3_code 64 (.bipush 34) 2 66 := ⟨by decide +kernel, rfl⟩
theorem d_method_3_66 : Dec method_3_code 66 (.castore) 1 67 := ⟨by decide +kernel, rfl⟩
theorem d_method_3_67 : Dec method_3_code 67 (.dup) 1 68 := ⟨by decide +kernel, rfl⟩
theorem d_method_3_68 : Dec method_3_code 68 (.iconst 3) 1 69 := ⟨by decide +kernel, rfl⟩
theorem d_method_3_69 : Dec method_3_code 69 (.iload_n 2) 1 70 := ⟨by decide +kernel, rfl⟩
theorem d_method_3_70 : Dec method_3_code 70 (.castore) 1 71 := ⟨by decide +kernel, rfl⟩
theorem d_method_3_71 : Dec method_3_code 71 (.dup) 1 72 := ⟨by decide +kernel, rfl⟩
theorem d_method_3_72 : Dec method_3_code 72 (.iconst 4) 1 73 := ⟨by decide +kernel, rfl⟩
theorem d_method_3_73 : Dec method_3_code 73 (.bipush 34) 2 75 := ⟨by decide +kernel, rfl⟩
theorem d_method_3_75 : Dec method_3_code 75 (.castore) 1 76 := ⟨by decide +kernel, rfl⟩
theorem d_method_3_76 : Dec method_3_code 76 (.areturn) 1 77 := ⟨by decide +kernel, rfl⟩
set_option maxRecDepth 65536 in
set_option maxHeartbeats 40000000 in
theorem c_core3 (l : Launch) (Z : State) (a0 : Array Value) (hw : ∀ d ∈ tables_1, d.before a0 Z = true) (hE : EW Z a0 EL0) {n0 : Nat} {h0 : Heap} (hO : Old Z n0 h0) {x y : Int32} (hx : ¬ x < 0 ∧ ¬ (255 : Int32) < x) (hy : ¬ y < 0 ∧ ¬ (255 : Int32) < y) :
    Ctr NW EL0 n0 Z [] l (⟨"com/example/wheal/wheal/FieldValuesSplitPinLaw", "core", "(ICC)[C"⟩ : MethodName) method_3_code 3 (some (.array .char)) ({ frames := 0, cells := 1, slots := 5, locals := 0 } : Room) #[.int (Int32.ofNat 3), .int x, .int y] h0 (RV fun w h => ∃ r kr, w = .ref r ∧ Ext h0 h ∧ h0.size ≤ r ∧ CArr Z h r kr (coreL 3 x y)) := by
  refine Ctr.body (plainFor_of_name pn_10) hE hO (fun x q => nomatch q) (L0 := #[.val (.int (Int32.ofNat 3)), .val (.int x), .val (.int y)]) (fun m => by first | (simp [entryFrame, mkF, argsToLocals, Value.category, maxLocals]; done) | rfl) ?_
  intro p e s m below meth c T0 W0
  refine Go.iload_n W0.cx d_method_3_0 (v := (Int32.ofNat 3)) rfl ?_
  refine Go.ifne W0.cx d_method_3_1 (by decide) (q := 8) rfl (fun _ => ?_) (fun hh => (by first | exact absurd (by decide : ¬ Int32.ofNat 3 = 0) hh | exact absurd hh (by decide : ¬ Int32.ofNat 3 = 0)))
  refine Go.iload_n W0.cx d_method_3_8 (v := (Int32.ofNat 3)) rfl ?_
  refine Go.iconst W0.cx d_method_3_9 (z := (1 : Int32)) rfl ?_
  refine Go.icne W0.cx d_method_3_10 (by decide) (q := 21) rfl (fun _ => ?_) (fun hh => (by first | exact absurd (by decide : ¬ Int32.ofNat 3 = 1) hh | exact absurd hh (by decide : ¬ Int32.ofNat 3 = 1)))
  refine Go.iload_n W0.cx d_method_3_21 (v := (Int32.ofNat 3)) rfl ?_
  refine Go.iconst W0.cx d_method_3_22 (z := (2 : Int32)) rfl ?_
  refine Go.icne W0.cx d_method_3_23 (by decide) (q := 44) rfl (fun _ => ?_) (fun hh => (by first | exact absurd (by decide : ¬ Int32.ofNat 3 = 2) hh | exact absurd hh (by decide : ¬ Int32.ofNat 3 = 2)))
  refine Go.iload_n W0.cx d_method_3_44 (v := (Int32.ofNat 3)) rfl ?_
  refine Go.iconst W0.cx d_method_3_45 (z := (3 : Int32)) rfl ?_
  refine Go.icne W0.cx d_method_3_46 (by decide) (q := 77) rfl (fun hh => (by first | exact absurd (by decide : Int32.ofNat 3 = 3) hh | exact absurd hh (by decide : Int32.ofNat 3 = 3))) (fun _ => ?_)
  refine Go.iconst W0.cx d_method_3_49 (z := (5 : Int32)) rfl ?_
  refine Go.newarr W0 d_method_3_50 (wd hw 8 rfl) (z := (5 : Int32)) (cap := 5) (by decide) (by decide) (by decide) (cells' := 1) (slots' := 5) rfl rfl (by decide) (by decide) ?_
  intro T1 h1 a1 ka1 g1 W1 E1 A1
  have V1 : CArr Z h1 a1 ka1 [0, 0, 0, 0, 0] := CArr.of_new A1 (k := 5) rfl rfl
  refine Go.dup W1.cx d_method_3_52 rfl ?_
  refine Go.iconst W1.cx d_method_3_53 (z := (0 : Int32)) rfl ?_
  refine Go.bipush W1.cx d_method_3_54 (z := (34 : Int32)) rfl ?_
  refine Go.castore W1 0 d_method_3_56 V1 (by simp) rfl (Nat.le_of_ble_eq_true rfl) (Nat.le_of_ble_eq_true rfl) (x' := (34 : Int32)) (nar_ch (by decide)) ?_
  intro T2 h2 W2 K2 V2
  have V2 : CArr Z h2 a1 ka1 [(34 : Int32), 0, 0, 0, 0] := V2
  have X2 : Ext h0 h2 := ext_keep E1 K2 (all1 (Nat.le_of_eq g1.symm))
  refine Go.dup W2.cx d_method_3_57 rfl ?_
  refine Go.iconst W2.cx d_method_3_58 (z := (1 : Int32)) rfl ?_
  refine Go.bipush W2.cx d_method_3_59 (z := (92 : Int32)) rfl ?_
  refine Go.castore W2 1 d_method_3_61 V2 (by simp) rfl (Nat.le_of_ble_eq_true rfl) (Nat.le_of_ble_eq_true rfl) (x' := (92 : Int32)) (nar_ch (by decide)) ?_
  intro T3 h3 W3 K3 V3
  have V3 : CArr Z h3 a1 ka1 [(34 : Int32), (92 : Int32), 0, 0, 0] := V3
  have X3 : Ext h0 h3 := ext_keep X2 K3 (all1 (Nat.le_of_eq g1.symm))
  refine Go.dup W3.cx d_method_3_62 rfl ?_
  refine Go.iconst W3.cx d_method_3_63 (z := (2 : Int32)) rfl ?_
  refine Go.bipush W3.cx d_method_3_64 (z := (34 : Int32)) rfl ?_
  refine Go.castore W3 2 d_method_3_66 V3 (by simp) rfl (Nat.le_of_ble_eq_true rfl) (Nat.le_of_ble_eq_true rfl) (x' := (34 : Int32)) (nar_ch (by decide)) ?_
  intro T4 h4 W4 K4 V4
  have V4 : CArr Z h4 a1 ka1 [(34 : Int32), (92 : Int32), (34 : Int32), 0, 0] := V4
  have X4 : Ext h0 h4 := ext_keep X3 K4 (all1 (Nat.le_of_eq g1.symm))
  refine Go.dup W4.cx d_method_3_67 rfl ?_
  refine Go.iconst W4.cx d_method_3_68 (z := (3 : Int32)) rfl ?_
  refine Go.iload_n W4.cx d_method_3_69 (v := y) rfl ?_
  refine Go.castore W4 3 d_method_3_70 V4 (by simp) rfl (Nat.le_of_ble_eq_true rfl) (Nat.le_of_ble_eq_true rfl) (x' := y) (nar_ch hy) ?_
  intro T5 h5 W5 K5 V5
  have V5 : CArr Z h5 a1 ka1 [(34 : Int32), (92 : Int32), (34 : Int32), y, 0] := V5
  have X5 : Ext h0 h5 := ext_keep X4 K5 (all1 (Nat.le_of_eq g1.symm))
  refine Go.dup W5.cx d_method_3_71 rfl ?_
  refine Go.iconst W5.cx d_method_3_72 (z := (4 : Int32)) rfl ?_
  refine Go.bipush W5.cx d_method_3_73 (z := (34 : Int32)) rfl ?_
  refine Go.castore W5 4 d_method_3_75 V5 (by simp) rfl (Nat.le_of_ble_eq_true rfl) (Nat.le_of_ble_eq_true rfl) (x' := (34 : Int32)) (nar_ch (by decide)) ?_
  intro T6 h6 W6 K6 V6
  have V6 : CArr Z h6 a1 ka1 [(34 : Int32), (92 : Int32), (34 : Int32), y, (34 : Int32)] := V6
  have X6 : Ext h0 h6 := ext_keep X5 K6 (all1 (Nat.le_of_eq g1.symm))
  exact Go.aret W6 d_method_3_76 rfl rfl rfl (by decide) (by decide) ⟨_, rfl, _, _, rfl, X6, Nat.le_of_eq g1.symm, V6⟩
theorem d_method_3_77 : Dec method_3_code 77 (.iload_n 0) 1 78 := ⟨by decide +kernel, rfl⟩
theorem d_method_3_78 : Dec method_3_code 78 (.iconst 4) 1 79 := ⟨by decide +kernel, rfl⟩
theorem d_method_3_79 : Dec method_3_code 79 (.if_icmp .ne 27) 3 82 := ⟨by decide +kernel, rfl⟩
theorem d_method_3_82 : Dec method_3_code 82 (.iconst 4) 1 83 := ⟨by decide +kernel, rfl⟩
theorem d_method_3_83 : Dec method_3_code 83 (.newarray .char) 2 85 := ⟨by decide +kernel, rfl⟩
theorem d_method_3_85 : Dec method_3_code 85 (.dup) 1 86 := ⟨by decide +kernel, rfl⟩
theorem d_method_3_86 : Dec method_3_code 86 (.iconst 0) 1 87 := ⟨by decide +kernel, rfl⟩
theorem d_method_3_87 : Dec method_3_code 87 (.bipush 34) 2 89 := ⟨by decide +kernel, rfl⟩
theorem d_method_3_89 : Dec method_3_code 89 (.castore) 1 90 := ⟨by decide +kernel, rfl⟩
theorem d_method_3_90 : Dec method_3_code 90 (.dup) 1 91 := ⟨by decide +kernel, rfl⟩
theorem d_method_3_91 : Dec method_3_code 91 (.iconst 1) 1 92 := ⟨by decide +kernel, rfl⟩
theorem d_method_3_92 : Dec method_3_code 92 (.bipush 92) 2 94 := ⟨by decide +kernel, rfl⟩
theorem d_method_3_94 : Dec method_3_code 94 (.castore) 1 95 := ⟨by decide +kernel, rfl⟩
theorem d_method_3_95 : Dec method_3_code 95 (.dup) 1 96 := ⟨by decide +kernel, rfl⟩
theorem d_method_3_96 : Dec method_3_code 96 (.iconst 2) 1 97 := ⟨by decide +kernel, rfl⟩
theorem d_method_3_97 : Dec method_3_code 97 (.bipush 92) 2 99 := ⟨by decide +kernel, rfl⟩
theorem d_method_3_99 : Dec method_3_code 99 (.castore) 1 100 := ⟨by decide +kernel, rfl⟩
theorem d_method_3_100 : Dec method_3_code 100 (.dup) 1 101 := ⟨by decide +kernel, rfl⟩
theorem d_method_3_101 : Dec method_3_code 101 (.iconst 3) 1 102 := ⟨by decide +kernel, rfl⟩
theorem d_method_3_102 : Dec method_3_code 102 (.bipush 34) 2 104 := ⟨by decide +kernel, rfl⟩
theorem d_method_3_104 : Dec method_3_code 104 (.castore) 1 105 := ⟨by decide +kernel, rfl⟩
theorem d_method_3_105 : Dec method_3_code 105 (.areturn) 1 106 := ⟨by decide +kernel, rfl⟩
set_option maxRecDepth 65536 in
set_option maxHeartbeats 40000000 in
theorem c_core4 (l : Launch) (Z : State) (a0 : Array Value) (hw : ∀ d ∈ tables_1, d.before a0 Z = true) (hE : EW Z a0 EL0) {n0 : Nat} {h0 : Heap} (hO : Old Z n0 h0) {x y : Int32} (hx : ¬ x < 0 ∧ ¬ (255 : Int32) < x) (hy : ¬ y < 0 ∧ ¬ (255 : Int32) < y) :
    Ctr NW EL0 n0 Z [] l (⟨"com/example/wheal/wheal/FieldValuesSplitPinLaw", "core", "(ICC)[C"⟩ : MethodName) method_3_code 3 (some (.array .char)) ({ frames := 0, cells := 1, slots := 5, locals := 0 } : Room) #[.int (Int32.ofNat 4), .int x, .int y] h0 (RV fun w h => ∃ r kr, w = .ref r ∧ Ext h0 h ∧ h0.size ≤ r ∧ CArr Z h r kr (coreL 4 x y)) := by
  refine Ctr.body (plainFor_of_name pn_10) hE hO (fun x q => nomatch q) (L0 := #[.val (.int (Int32.ofNat 4)), .val (.int x), .val (.int y)]) (fun m => by first | (simp [entryFrame, mkF, argsToLocals, Value.category, maxLocals]; done) | rfl) ?_
  intro p e s m below meth c T0 W0
  refine Go.iload_n W0.cx d_method_3_0 (v := (Int32.ofNat 4)) rfl ?_
  refine Go.ifne W0.cx d_method_3_1 (by decide) (q := 8) rfl (fun _ => ?_) (fun hh => (by first | exact absurd (by decide : ¬ Int32.ofNat 4 = 0) hh | exact absurd hh (by decide : ¬ Int32.ofNat 4 = 0)))
  refine Go.iload_n W0.cx d_method_3_8 (v := (Int32.ofNat 4)) rfl ?_
  refine Go.iconst W0.cx d_method_3_9 (z := (1 : Int32)) rfl ?_
  refine Go.icne W0.cx d_method_3_10 (by decide) (q := 21) rfl (fun _ => ?_) (fun hh => (by first | exact absurd (by decide : ¬ Int32.ofNat 4 = 1) hh | exact absurd hh (by decide : ¬ Int32.ofNat 4 = 1)))
  refine Go.iload_n W0.cx d_method_3_21 (v := (Int32.ofNat 4)) rfl ?_
  refine Go.iconst W0.cx d_method_3_22 (z := (2 : Int32)) rfl ?_
  refine Go.icne W0.cx d_method_3_23 (by decide) (q := 44) rfl (fun _ => ?_) (fun hh => (by first | exact absurd (by decide : ¬ Int32.ofNat 4 = 2) hh | exact absurd hh (by decide : ¬ Int32.ofNat 4 = 2)))
  refine Go.iload_n W0.cx d_method_3_44 (v := (Int32.ofNat 4)) rfl ?_
  refine Go.iconst W0.cx d_method_3_45 (z := (3 : Int32)) rfl ?_
  refine Go.icne W0.cx d_method_3_46 (by decide) (q := 77) rfl (fun _ => ?_) (fun hh => (by first | exact absurd (by decide : ¬ Int32.ofNat 4 = 3) hh | exact absurd hh (by decide : ¬ Int32.ofNat 4 = 3)))
  refine Go.iload_n W0.cx d_method_3_77 (v := (Int32.ofNat 4)) rfl ?_
  refine Go.iconst W0.cx d_method_3_78 (z := (4 : Int32)) rfl ?_
  refine Go.icne W0.cx d_method_3_79 (by decide) (q := 106) rfl (fun hh => (by first | exact absurd (by decide : Int32.ofNat 4 = 4) hh | exact absurd hh (by decide : Int32.ofNat 4 = 4))) (fun _ => ?_)
  refine Go.iconst W0.cx d_method_3_82 (z := (4 : Int32)) rfl ?_
  refine Go.newarr W0 d_method_3_83 (wd hw 8 rfl) (z := (4 : Int32)) (cap := 4) (by decide) (by decide) (by decide) (cells' := 1) (slots' := 4) rfl rfl (by decide) (by decide) ?_
  intro T1 h1 a1 ka1 g1 W1 E1 A1
  have V1 : CArr Z h1 a1 ka1 [0, 0, 0, 0] := CArr.of_new A1 (k := 4) rfl rfl
  refine Go.dup W1.cx d_method_3_85 rfl ?_
  refine Go.iconst W1.cx d_method_3_86 (z := (0 : Int32)) rfl ?_
  refine Go.bipush W1.cx d_method_3_87 (z := (34 : Int32)) rfl ?_
  refine Go.castore W1 0 d_method_3_89 V1 (by simp) rfl (Nat.le_of_ble_eq_true rfl) (Nat.le_of_ble_eq_true rfl) (x' := (34 : Int32)) (nar_ch (by decide)) ?_
  intro T2 h2 W2 K2 V2
  have V2 : CArr Z h2 a1 ka1 [(34 : Int32), 0, 0, 0] := V2
  have X2 : Ext h0 h2 := ext_keep E1 K2 (all1 (Nat.le_of_eq g1.symm))
  refine Go.dup W2.cx d_method_3_90 rfl ?_
  refine Go.iconst W2.cx d_method_3_91 (z := (1 : Int32)) rfl ?_
  refine Go.bipush W2.cx d_method_3_92 (z := (92 : Int32)) rfl ?_
  refine Go.castore W2 1 d_method_3_94 V2 (by simp) rfl (Nat.le_of_ble_eq_true rfl) (Nat.le_of_ble_eq_true rfl) (x' := (92 : Int32)) (nar_ch (by decide)) ?_
  intro T3 h3 W3 K3 V3
  have V3 : CArr Z h3 a1 ka1 [(34 : Int32), (92 : Int32), 0, 0] := V3
  have X3 : Ext h0 h3 := ext_keep X2 K3 (all1 (Nat.le_of_eq g1.symm))
  refine Go.dup W3.cx d_method_3_95 rfl ?_
  refine Go.iconst W3.cx d_method_3_96 (z := (2 : Int32)) rfl ?_
  refine Go.bipush W3.cx d_method_3_97 (z := (92 : Int32)) rfl ?_
  refine Go.castore W3 2 d_method_3_99 V3 (by simp) rfl (Nat.le_of_ble_eq_true rfl) (Nat.le_of_ble_eq_true rfl) (x' := (92 : Int32)) (nar_ch (by decide)) ?_
  intro T4 h4 W4 K4 V4
  have V4 : CArr Z h4 a1 ka1 [(34 : Int32), (92 : Int32), (92 : Int32), 0] := V4
  have X4 : Ext h0 h4 := ext_keep X3 K4 (all1 (Nat.le_of_eq g1.symm))
  refine Go.dup W4.cx d_method_3_100 rfl ?_
  refine Go.iconst W4.cx d_method_3_101 (z := (3 : Int32)) rfl ?_
  refine Go.bipush W4.cx d_method_3_102 (z := (34 : Int32)) rfl ?_
  refine Go.castore W4 3 d_method_3_104 V4 (by simp) rfl (Nat.le_of_ble_eq_true rfl) (Nat.le_of_ble_eq_true rfl) (x' := (34 : Int32)) (nar_ch (by decide)) ?_
  intro T5 h5 W5 K5 V5
  have V5 : CArr Z h5 a1 ka1 [(34 : Int32), (92 : Int32), (92 : Int32), (34 : Int32)] := V5
  have X5 : Ext h0 h5 := ext_keep X4 K5 (all1 (Nat.le_of_eq g1.symm))
  exact Go.aret W5 d_method_3_105 rfl rfl rfl (by decide) (by decide) ⟨_, rfl, _, _, rfl, X5, Nat.le_of_eq g1.symm, V5⟩
theorem d_method_3_106 : Dec method_3_code 106 (.iload_n 0) 1 107 := ⟨by decide +kernel, rfl⟩
theorem d_method_3_107 : Dec method_3_code 107 (.iconst 5) 1 108 := ⟨by decide +kernel, rfl⟩
theorem d_method_3_108 : Dec method_3_code 108 (.if_icmp .ne 29) 3 111 := ⟨by decide +kernel, rfl⟩
theorem d_method_3_111 : Dec method_3_code 111 (.iconst 5) 1 112 := ⟨by decide +kernel, rfl⟩
theorem d_method_3_112 : Dec method_3_code 112 (.newarray .char) 2 114 := ⟨by decide +kernel, rfl⟩
theorem d_method_3_114 : Dec method_3_code 114 (.dup) 1 115 := ⟨by decide +kernel, rfl⟩
theorem d_method_3_115 : Dec method_3_code 115 (.iconst 0) 1 116 := ⟨by decide +kernel, rfl⟩
theorem d_method_3_116 : Dec method_3_code 116 (.iload_n 1) 1 117 := ⟨by decide +kernel, rfl⟩
theorem d_method_3_117 : Dec method_3_code 117 (.castore) 1 118 := ⟨by decide +kernel, rfl⟩
theorem d_method_3_118 : Dec method_3_code 118 (.dup) 1 119 := ⟨by decide +kernel, rfl⟩
theorem d_method_3_119 : Dec method_3_code 119 (.iconst 1) 1 120 := ⟨by decide +kernel, rfl⟩
theorem d_method_3_120 : Dec method_3_code 120 (.bipush 34) 2 122 := ⟨by decide +kernel, rfl⟩
theorem d_method_3_122 : Dec method_3_code 122 (.castore) 1 123 := ⟨by decide +kernel, rfl⟩
theorem d_method_3_123 : Dec method_3_code 123 (.dup) 1 124 := ⟨by decide +kernel, rfl⟩
theorem d_method_3_124 : Dec method_3_code 124 (.iconst 2) 1 125 := ⟨by decide +kernel, rfl⟩
theorem d_method_3_125 : Dec method_3_code 125 (.iload_n 2) 1 126 := ⟨by decide +kernel, rfl⟩
theorem d_method_3_126 : Dec method_3_code 126 (.castore) 1 127 := ⟨by decide +kernel, rfl⟩
theorem d_method_3_127 : Dec method_3_code 127 (.dup) 1 128 := ⟨by decide +kernel, rfl⟩
theorem d_method_3_128 : Dec method_3_code 128 (.iconst 3) 1 129 := ⟨by decide +kernel, rfl⟩
theorem d_method_3_129 : Dec method_3_code 129 (.bipush 34) 2 131 := ⟨by decide +kernel, rfl⟩
theorem d_method_3_131 : Dec method_3_code 131 (.castore) 1 132 := ⟨by decide +kernel, rfl⟩
theorem d_method_3_132 : Dec method_3_code 132 (.dup) 1 133 := ⟨by decide +kernel, rfl⟩
theorem d_method_3_133 : Dec method_3_code 133 (.iconst 4) 1 134 := ⟨by decide +kernel, rfl⟩
theorem d_method_3_134 : Dec method_3_code 134 (.iload_n 1) 1 135 := ⟨by decide +kernel, rfl⟩
theorem d_method_3_135 : Dec method_3_code 135 (.castore) 1 136 := ⟨by decide +kernel, rfl⟩
theorem d_method_3_136 : Dec method_3_code 136 (.areturn) 1 137 := ⟨by decide +kernel, rfl⟩
set_option maxRecDepth 65536 in
set_option maxHeartbeats 40000000 in
theorem c_core5 (l : Launch) (Z : State) (a0 : Array Value) (hw : ∀ d ∈ tables_1, d.before a0 Z = true) (hE : EW Z a0 EL0) {n0 : Nat} {h0 : Heap} (hO : Old Z n0 h0) {x y : Int32} (hx : ¬ x < 0 ∧ ¬ (255 : Int32) < x) (hy : ¬ y < 0 ∧ ¬ (255 : Int32) < y) :
    Ctr NW EL0 n0 Z [] l (⟨"com/example/wheal/wheal/FieldValuesSplitPinLaw", "core", "(ICC)[C"⟩ : MethodName) method_3_code 3 (some (.array .char)) ({ frames := 0, cells := 1, slots := 5, locals := 0 } : Room) #[.int (Int32.ofNat 5), .int x, .int y] h0 (RV fun w h => ∃ r kr, w = .ref r ∧ Ext h0 h ∧ h0.size ≤ r ∧ CArr Z h r kr (coreL 5 x y)) := by
  refine Ctr.body (plainFor_of_name pn_10) hE hO (fun x q => nomatch q) (L0 := #[.val (.int (Int32.ofNat 5)), .val (.int x), .val (.int y)]) (fun m => by first | (simp [entryFrame, mkF, argsToLocals, Value.category, maxLocals]; done) | rfl) ?_
  intro p e s m below meth c T0 W0
  refine Go.iload_n W0.cx d_method_3_0 (v := (Int32.ofNat 5)) rfl ?_
  refine Go.ifne W0.cx d_method_3_1 (by decide) (q := 8) rfl (fun _ => ?_) (fun hh => (by first | exact absurd (by decide : ¬ Int32.ofNat 5 = 0) hh | exact absurd hh (by decide : ¬ Int32.ofNat 5 = 0)))
  refine Go.iload_n W0.cx d_method_3_8 (v := (Int32.ofNat 5)) rfl ?_
  refine Go.iconst W0.cx d_method_3_9 (z := (1 : Int32)) rfl ?_
  refine Go.icne W0.cx d_method_3_10 (by decide) (q := 21) rfl (fun _ => ?_) (fun hh => (by first | exact absurd (by decide : ¬ Int32.ofNat 5 = 1) hh | exact absurd hh (by decide : ¬ Int32.ofNat 5 = 1)))
  refine Go.iload_n W0.cx d_method_3_21 (v := (Int32.ofNat 5)) rfl ?_
  refine Go.iconst W0.cx d_method_3_22 (z := (2 : Int32)) rfl ?_
  refine Go.icne W0.cx d_method_3_23 (by decide) (q := 44) rfl (fun _ => ?_) (fun hh => (by first | exact absurd (by decide : ¬ Int32.ofNat 5 = 2) hh | exact absurd hh (by decide : ¬ Int32.ofNat 5 = 2)))
  refine Go.iload_n W0.cx d_method_3_44 (v := (Int32.ofNat 5)) rfl ?_
  refine Go.iconst W0.cx d_method_3_45 (z := (3 : Int32)) rfl ?_
  refine Go.icne W0.cx d_method_3_46 (by decide) (q := 77) rfl (fun _ => ?_) (fun hh => (by first | exact absurd (by decide : ¬ Int32.ofNat 5 = 3) hh | exact absurd hh (by decide : ¬ Int32.ofNat 5 = 3)))
  refine Go.iload_n W0.cx d_method_3_77 (v := (Int32.ofNat 5)) rfl ?_
  refine Go.iconst W0.cx d_method_3_78 (z := (4 : Int32)) rfl ?_
  refine Go.icne W0.cx d_method_3_79 (by decide) (q := 106) rfl (fun _ => ?_) (fun hh => (by first | exact absurd (by decide : ¬ Int32.ofNat 5 = 4) hh | exact absurd hh (by decide : ¬ Int32.ofNat 5 = 4)))
  refine Go.iload_n W0.cx d_method_3_106 (v := (Int32.ofNat 5)) rfl ?_
  refine Go.iconst W0.cx d_method_3_107 (z := (5 : Int32)) rfl ?_
  refine Go.icne W0.cx d_method_3_108 (by decide) (q := 137) rfl (fun hh => (by first | exact absurd (by decide : Int32.ofNat 5 = 5) hh | exact absurd hh (by decide : Int32.ofNat 5 = 5))) (fun _ => ?_)
  refine Go.iconst W0.cx d_method_3_111 (z := (5 : Int32)) rfl ?_
  refine Go.newarr W0 d_method_3_112 (wd hw 8 rfl) (z := (5 : Int32)) (cap := 5) (by decide) (by decide) (by decide) (cells' := 1) (slots' := 5) rfl rfl (by decide) (by decide) ?_
  intro T1 h1 a1 ka1 g1 W1 E1 A1
  have V1 : CArr Z h1 a1 ka1 [0, 0, 0, 0, 0] := CArr.of_new A1 (k := 5) rfl rfl
  refine Go.dup W1.cx d_method_3_114 rfl ?_
  refine Go.iconst W1.cx d_method_3_115 (z := (0 : Int32)) rfl ?_
  refine Go.iload_n W1.cx d_method_3_116 (v := x) rfl ?_
  refine Go.castore W1 0 d_method_3_117 V1 (by simp) rfl (Nat.le_of_ble_eq_true rfl) (Nat.le_of_ble_eq_true rfl) (x' := x) (nar_ch hx) ?_
  intro T2 h2 W2 K2 V2
  have V2 : CArr Z h2 a1 ka1 [x, 0, 0, 0, 0] := V2
  have X2 : Ext h0 h2 := ext_keep E1 K2 (all1 (Nat.le_of_eq g1.symm))
  refine Go.dup W2.cx d_method_3_118 rfl ?_
  refine Go.iconst W2.cx d_method_3_119 (z := (1 : Int32)) rfl ?_
  refine Go.bipush W2.cx d_method_3_120 (z := (34 : Int32)) rfl ?_
  refine Go.castore W2 1 d_method_3_122 V2 (by simp) rfl (Nat.le_of_ble_eq_true rfl) (Nat.le_of_ble_eq_true rfl) (x' := (34 : Int32)) (nar_ch (by decide)) ?_
  intro T3 h3 W3 K3 V3
  have V3 : CArr Z h3 a1 ka1 [x, (34 : Int32), 0, 0, 0] := V3
  have X3 : Ext h0 h3 := ext_keep X2 K3 (all1 (Nat.le_of_eq g1.symm))
  refine Go.dup W3.cx d_method_3_123 rfl ?_
  refine Go.iconst W3.cx d_method_3_124 (z := (2 : Int32)) rfl ?_
  refine Go.iload_n W3.cx d_method_3_125 (v := y) rfl ?_
  refine Go.castore W3 2 d_method_3_126 V3 (by simp) rfl (Nat.le_of_ble_eq_true rfl) (Nat.le_of_ble_eq_true rfl) (x' := y) (nar_ch hy) ?_
  intro T4 h4 W4 K4 V4
  have V4 : CArr Z h4 a1 ka1 [x, (34 : Int32), y, 0, 0] := V4
  have X4 : Ext h0 h4 := ext_keep X3 K4 (all1 (Nat.le_of_eq g1.symm))
  refine Go.dup W4.cx d_method_3_127 rfl ?_
  refine Go.iconst W4.cx d_method_3_128 (z := (3 : Int32)) rfl ?_
  refine Go.bipush W4.cx d_method_3_129 (z := (34 : Int32)) rfl ?_
  refine Go.castore W4 3 d_method_3_131 V4 (by simp) rfl (Nat.le_of_ble_eq_true rfl) (Nat.le_of_ble_eq_true rfl) (x' := (34 : Int32)) (nar_ch (by decide)) ?_
  intro T5 h5 W5 K5 V5
  have V5 : CArr Z h5 a1 ka1 [x, (34 : Int32), y, (34 : Int32), 0] := V5
  have X5 : Ext h0 h5 := ext_keep X4 K5 (all1 (Nat.le_of_eq g1.symm))
  refine Go.dup W5.cx d_method_3_132 rfl ?_
  refine Go.iconst W5.cx d_method_3_133 (z := (4 : Int32)) rfl ?_
  refine Go.iload_n W5.cx d_method_3_134 (v := x) rfl ?_
  refine Go.castore W5 4 d_method_3_135 V5 (by simp) rfl (Nat.le_of_ble_eq_true rfl) (Nat.le_of_ble_eq_true rfl) (x' := x) (nar_ch hx) ?_
  intro T6 h6 W6 K6 V6
  have V6 : CArr Z h6 a1 ka1 [x, (34 : Int32), y, (34 : Int32), x] := V6
  have X6 : Ext h0 h6 := ext_keep X5 K6 (all1 (Nat.le_of_eq g1.symm))
  exact Go.aret W6 d_method_3_136 rfl rfl rfl (by decide) (by decide) ⟨_, rfl, _, _, rfl, X6, Nat.le_of_eq g1.symm, V6⟩
theorem d_method_3_137 : Dec method_3_code 137 (.iload_n 0) 1 138 := ⟨by decide +kernel, rfl⟩
theorem d_method_3_138 : Dec method_3_code 138 (.bipush 6) 2 140 := ⟨by decide +kernel, rfl⟩
theorem d_method_3_140 : Dec method_3_code 140 (.if_icmp .ne 24) 3 143 := ⟨by decide +kernel, rfl⟩
theorem d_method_3_143 : Dec method_3_code 143 (.iconst 4) 1 144 := ⟨by decide +kernel, rfl⟩
theorem d_method_3_144 : Dec method_3_code 144 (.newarray .char) 2 146 := ⟨by decide +kernel, rfl⟩
theorem d_method_3_146 : Dec method_3_code 146 (.dup) 1 147 := ⟨by decide +kernel, rfl⟩
theorem d_method_3_147 : Dec method_3_code 147 (.iconst 0) 1 148 := ⟨by decide +kernel, rfl⟩
theorem d_method_3_148 : Dec method_3_code 148 (.bipush 34) 2 150 := ⟨by decide +kernel, rfl⟩
theorem d_method_3_150 : Dec method_3_code 150 (.castore) 1 151 := ⟨by decide +kernel, rfl⟩
theorem d_method_3_151 : Dec method_3_code 151 (.dup) 1 152 := ⟨by decide +kernel, rfl⟩
theorem d_method_3_152 : Dec method_3_code 152 (.iconst 1) 1 153 := ⟨by decide +kernel, rfl⟩
theorem d_method_3_153 : Dec method_3_code 153 (.iload_n 2) 1 154 := ⟨by decide +kernel, rfl⟩
theorem d_method_3_154 : Dec method_3_code 154 (.castore) 1 155 := ⟨by decide +kernel, rfl⟩
theorem d_method_3_155 : Dec method_3_code 155 (.dup) 1 156 := ⟨by decide +kernel, rfl⟩
theorem d_method_3_156 : Dec method_3_code 156 (.iconst 2) 1 157 := ⟨by decide +kernel, rfl⟩
theorem d_method_3_157 : Dec method_3_code 157 (.iload_n 1) 1 158 := ⟨by decide +kernel, rfl⟩
theorem d_method_3_158 : Dec method_3_code 158 (.castore) 1 159 := ⟨by decide +kernel, rfl⟩
theorem d_method_3_159 : Dec method_3_code 159 (.dup) 1 160 := ⟨by decide +kernel, rfl⟩
theorem d_method_3_160 : Dec method_3_code 160 (.iconst 3) 1 161 := ⟨by decide +kernel, rfl⟩
theorem d_method_3_161 : Dec method_3_code 161 (.iload_n 2) 1 162 := ⟨by decide +kernel, rfl⟩
theorem d_method_3_162 : Dec method_3_code 162 (.castore) 1 163 := ⟨by decide +kernel, rfl⟩
theorem d_method_3_163 : Dec method_3_code 163 (.areturn) 1 164 := ⟨by decide +kernel, rfl⟩
set_option maxRecDepth 65536 in
set_option maxHeartbeats 40000000 in
theorem c_core6 (l : Launch) (Z : State) (a0 : Array Value) (hw : ∀ d ∈ tables_1, d.before a0 Z = true) (hE : EW Z a0 EL0) {n0 : Nat} {h0 : Heap} (hO : Old Z n0 h0) {x y : Int32} (hx : ¬ x < 0 ∧ ¬ (255 : Int32) < x) (hy : ¬ y < 0 ∧ ¬ (255 : Int32) < y) :
    Ctr NW EL0 n0 Z [] l (⟨"com/example/wheal/wheal/FieldValuesSplitPinLaw", "core", "(ICC)[C"⟩ : MethodName) method_3_code 3 (some (.array .char)) ({ frames := 0, cells := 1, slots := 5, locals := 0 } : Room) #[.int (Int32.ofNat 6), .int x, .int y] h0 (RV fun w h => ∃ r kr, w = .ref r ∧ Ext h0 h ∧ h0.size ≤ r ∧ CArr Z h r kr (coreL 6 x y)) := by
  refine Ctr.body (plainFor_of_name pn_10) hE hO (fun x q => nomatch q) (L0 := #[.val (.int (Int32.ofNat 6)), .val (.int x), .val (.int y)]) (fun m => by first | (simp [entryFrame, mkF, argsToLocals, Value.category, maxLocals]; done) | rfl) ?_
  intro p e s m below meth c T0 W0
  refine Go.iload_n W0.cx d_method_3_0 (v := (Int32.ofNat 6)) rfl ?_
  refine Go.ifne W0.cx d_method_3_1 (by decide) (q := 8) rfl (fun _ => ?_) (fun hh => (by first | exact absurd (by decide : ¬ Int32.ofNat 6 = 0) hh | exact absurd hh (by decide : ¬ Int32.ofNat 6 = 0)))
  refine Go.iload_n W0.cx d_method_3_8 (v := (Int32.ofNat 6)) rfl ?_
  refine Go.iconst W0.cx d_method_3_9 (z := (1 : Int32)) rfl ?_
  refine Go.icne W0.cx d_method_3_10 (by decide) (q := 21) rfl (fun _ => ?_) (fun hh => (by first | exact absurd (by decide : ¬ Int32.ofNat 6 = 1) hh | exact absurd hh (by decide : ¬ Int32.ofNat 6 = 1)))
  refine Go.iload_n W0.cx d_method_3_21 (v := (Int32.ofNat 6)) rfl ?_
  refine Go.iconst W0.cx d_method_3_22 (z := (2 : Int32)) rfl ?_
  refine Go.icne W0.cx d_method_3_23 (by decide) (q := 44) rfl (fun _ => ?_) (fun hh => (by first | exact absurd (by decide : ¬ Int32.ofNat 6 = 2) hh | exact absurd hh (by decide : ¬ Int32.ofNat 6 = 2)))
  refine Go.iload_n W0.cx d_method_3_44 (v := (Int32.ofNat 6)) rfl ?_
  refine Go.iconst W0.cx d_method_3_45 (z := (3 : Int32)) rfl ?_
  refine Go.icne W0.cx d_method_3_46 (by decide) (q := 77) rfl (fun _ => ?_) (fun hh => (by first | exact absurd (by decide : ¬ Int32.ofNat 6 = 3) hh | exact absurd hh (by decide : ¬ Int32.ofNat 6 = 3)))
  refine Go.iload_n W0.cx d_method_3_77 (v := (Int32.ofNat 6)) rfl ?_
  refine Go.iconst W0.cx d_method_3_78 (z := (4 : Int32)) rfl ?_
  refine Go.icne W0.cx d_method_3_79 (by decide) (q := 106) rfl (fun _ => ?_) (fun hh => (by first | exact absurd (by decide : ¬ Int32.ofNat 6 = 4) hh | exact absurd hh (by decide : ¬ Int32.ofNat 6 = 4)))
  refine Go.iload_n W0.cx d_method_3_106 (v := (Int32.ofNat 6)) rfl ?_
  refine Go.iconst W0.cx d_method_3_107 (z := (5 : Int32)) rfl ?_
  refine Go.icne W0.cx d_method_3_108 (by decide) (q := 137) rfl (fun _ => ?_) (fun hh => (by first | exact absurd (by decide : ¬ Int32.ofNat 6 = 5) hh | exact absurd hh (by decide : ¬ Int32.ofNat 6 = 5)))
  refine Go.iload_n W0.cx d_method_3_137 (v := (Int32.ofNat 6)) rfl ?_
  refine Go.bipush W0.cx d_method_3_138 (z := (6 : Int32)) rfl ?_
  refine Go.icne W0.cx d_method_3_140 (by decide) (q := 164) rfl (fun hh => (by first | exact absurd (by decide : Int32.ofNat 6 = 6) hh | exact absurd hh (by decide : Int32.ofNat 6 = 6))) (fun _ => ?_)
  refine Go.iconst W0.cx d_method_3_143 (z := (4 : Int32)) rfl ?_
  refine Go.newarr W0 d_method_3_144 (wd hw 8 rfl) (z := (4 : Int32)) (cap := 4) (by decide) (by decide) (by decide) (cells' := 1) (slots' := 4) rfl rfl (by decide) (by decide) ?_
  intro T1 h1 a1 ka1 g1 W1 E1 A1
  have V1 : CArr Z h1 a1 ka1 [0, 0, 0, 0] := CArr.of_new A1 (k := 4) rfl rfl
  refine Go.dup W1.cx d_method_3_146 rfl ?_
  refine Go.iconst W1.cx d_method_3_147 (z := (0 : Int32)) rfl ?_
  refine Go.bipush W1.cx d_method_3_148 (z := (34 : Int32)) rfl ?_
  refine Go.castore W1 0 d_method_3_150 V1 (by simp) rfl (Nat.le_of_ble_eq_true rfl) (Nat.le_of_ble_eq_true rfl) (x' := (34 : Int32)) (nar_ch (by decide)) ?_
  intro T2 h2 W2 K2 V2
  have V2 : CArr Z h2 a1 ka1 [(34 : Int32), 0, 0, 0] := V2
  have X2 : Ext h0 h2 := ext_keep E1 K2 (all1 (Nat.le_of_eq g1.symm))
  refine Go.dup W2.cx d_method_3_151 rfl ?_
  refine Go.iconst W2.cx d_method_3_152 (z := (1 : Int32)) rfl ?_
  refine Go.iload_n W2.cx d_method_3_153 (v := y) rfl ?_
  refine Go.castore W2 1 d_method_3_154 V2 (by simp) rfl (Nat.le_of_ble_eq_true rfl) (Nat.le_of_ble_eq_true rfl) (x' := y) (nar_ch hy) ?_
  intro T3 h3 W3 K3 V3
  have V3 : CArr Z h3 a1 ka1 [(34 : Int32), y, 0, 0] := V3
  have X3 : Ext h0 h3 := ext_keep X2 K3 (all1 (Nat.le_of_eq g1.symm))
  refine Go.dup W3.cx d_method_3_155 rfl ?_
  refine Go.iconst W3.cx d_method_3_156 (z := (2 : Int32)) rfl ?_
  refine Go.iload_n W3.cx d_method_3_157 (v := x) rfl ?_
  refine Go.castore W3 2 d_method_3_158 V3 (by simp) rfl (Nat.le_of_ble_eq_true rfl) (Nat.le_of_ble_eq_true rfl) (x' := x) (nar_ch hx) ?_
  intro T4 h4 W4 K4 V4
  have V4 : CArr Z h4 a1 ka1 [(34 : Int32), y, x, 0] := V4
  have X4 : Ext h0 h4 := ext_keep X3 K4 (all1 (Nat.le_of_eq g1.symm))
  refine Go.dup W4.cx d_method_3_159 rfl ?_
  refine Go.iconst W4.cx d_method_3_160 (z := (3 : Int32)) rfl ?_
  refine Go.iload_n W4.cx d_method_3_161 (v := y) rfl ?_
  refine Go.castore W4 3 d_method_3_162 V4 (by simp) rfl (Nat.le_of_ble_eq_true rfl) (Nat.le_of_ble_eq_true rfl) (x' := y) (nar_ch hy) ?_
  intro T5 h5 W5 K5 V5
  have V5 : CArr Z h5 a1 ka1 [(34 : Int32), y, x, y] := V5
  have X5 : Ext h0 h5 := ext_keep X4 K5 (all1 (Nat.le_of_eq g1.symm))
  exact Go.aret W5 d_method_3_163 rfl rfl rfl (by decide) (by decide) ⟨_, rfl, _, _, rfl, X5, Nat.le_of_eq g1.symm, V5⟩
theorem d_method_3_164 : Dec method_3_code 164 (.iconst 4) 1 165 := ⟨by decide +kernel, rfl⟩
theorem d_method_3_165 : Dec method_3_code 165 (.newarray .char) 2 167 := ⟨by decide +kernel, rfl⟩
theorem d_method_3_167 : Dec method_3_code 167 (.dup) 1 168 := ⟨by decide +kernel, rfl⟩
theorem d_method_3_168 : Dec method_3_code 168 (.iconst 0) 1 169 := ⟨by decide +kernel, rfl⟩
theorem d_method_3_169 : Dec method_3_code 169 (.bipush 34) 2 171 := ⟨by decide +kernel, rfl⟩
theorem d_method_3_171 : Dec method_3_code 171 (.castore) 1 172 := ⟨by decide +kernel, rfl⟩
theorem d_method_3_172 : Dec method_3_code 172 (.dup) 1 173 := ⟨by decide +kernel, rfl⟩
theorem d_method_3_173 : Dec method_3_code 173 (.iconst 1) 1 174 := ⟨by decide +kernel, rfl⟩
theorem d_method_3_174 : Dec method_3_code 174 (.bipush 92) 2 176 := ⟨by decide +kernel, rfl⟩
theorem d_method_3_176 : Dec method_3_code 176 (.castore) 1 177 := ⟨by decide +kernel, rfl⟩
theorem d_method_3_177 : Dec method_3_code 177 (.dup) 1 178 := ⟨by decide +kernel, rfl⟩
theorem d_method_3_178 : Dec method_3_code 178 (.iconst 2) 1 179 := ⟨by decide +kernel, rfl⟩
theorem d_method_3_179 : Dec method_3_code 179 (.bipush 34) 2 181 := ⟨by decide +kernel, rfl⟩
theorem d_method_3_181 : Dec method_3_code 181 (.castore) 1 182 := ⟨by decide +kernel, rfl⟩
theorem d_method_3_182 : Dec method_3_code 182 (.dup) 1 183 := ⟨by decide +kernel, rfl⟩
theorem d_method_3_183 : Dec method_3_code 183 (.iconst 3) 1 184 := ⟨by decide +kernel, rfl⟩
theorem d_method_3_184 : Dec method_3_code 184 (.iload_n 2) 1 185 := ⟨by decide +kernel, rfl⟩
theorem d_method_3_185 : Dec method_3_code 185 (.castore) 1 186 := ⟨by decide +kernel, rfl⟩
theorem d_method_3_186 : Dec method_3_code 186 (.areturn) 1 187 := ⟨by decide +kernel, rfl⟩
set_option maxRecDepth 65536 in
set_option maxHeartbeats 40000000 in
theorem c_core7 (l : Launch) (Z : State) (a0 : Array Value) (hw : ∀ d ∈ tables_1, d.before a0 Z = true) (hE : EW Z a0 EL0) {n0 : Nat} {h0 : Heap} (hO : Old Z n0 h0) {x y : Int32} (hx : ¬ x < 0 ∧ ¬ (255 : Int32) < x) (hy : ¬ y < 0 ∧ ¬ (255 : Int32) < y) :
    Ctr NW EL0 n0 Z [] l (⟨"com/example/wheal/wheal/FieldValuesSplitPinLaw", "core", "(ICC)[C"⟩ : MethodName) method_3_code 3 (some (.array .char)) ({ frames := 0, cells := 1, slots := 5, locals := 0 } : Room) #[.int (Int32.ofNat 7), .int x, .int y] h0 (RV fun w h => ∃ r kr, w = .ref r ∧ Ext h0 h ∧ h0.size ≤ r ∧ CArr Z h r kr (coreL 7 x y)) := by
  refine Ctr.body (plainFor_of_name pn_10) hE hO (fun x q => nomatch q) (L0 := #[.val (.int (Int32.ofNat 7)), .val (.int x), .val (.int y)]) (fun m => by first | (simp [entryFrame, mkF, argsToLocals, Value.category, maxLocals]; done) | rfl) ?_
  intro p e s m below meth c T0 W0
  refine Go.iload_n W0.cx d_method_3_0 (v := (Int32.ofNat 7)) rfl ?_
  refine Go.ifne W0.cx d_method_3_1 (by decide) (q := 8) rfl (fun _ => ?_) (fun hh => (by first | exact absurd (by decide : ¬ Int32.ofNat 7 = 0) hh | exact absurd hh (by decide : ¬ Int32.ofNat 7 = 0)))
  refine Go.iload_n W0.cx d_method_3_8 (v := (Int32.ofNat 7)) rfl ?_
  refine Go.iconst W0.cx d_method_3_9 (z := (1 : Int32)) rfl ?_
  refine Go.icne W0.cx d_method_3_10 (by decide) (q := 21) rfl (fun _ => ?_) (fun hh => (by first | exact absurd (by decide : ¬ Int32.ofNat 7 = 1) hh | exact absurd hh (by decide : ¬ Int32.ofNat 7 = 1)))
  refine Go.iload_n W0.cx d_method_3_21 (v := (Int32.ofNat 7)) rfl ?_
  refine Go.iconst W0.cx d_method_3_22 (z := (2 : Int32)) rfl ?_
  refine Go.icne W0.cx d_method_3_23 (by decide) (q := 44) rfl (fun _ => ?_) (fun hh => (by first | exact absurd (by decide : ¬ Int32.ofNat 7 = 2) hh | exact absurd hh (by decide : ¬ Int32.ofNat 7 = 2)))
  refine Go.iload_n W0.cx d_method_3_44 (v := (Int32.ofNat 7)) rfl ?_
  refine Go.iconst W0.cx d_method_3_45 (z := (3 : Int32)) rfl ?_
  refine Go.icne W0.cx d_method_3_46 (by decide) (q := 77) rfl (fun _ => ?_) (fun hh => (by first | exact absurd (by decide : ¬ Int32.ofNat 7 = 3) hh | exact absurd hh (by decide : ¬ Int32.ofNat 7 = 3)))
  refine Go.iload_n W0.cx d_method_3_77 (v := (Int32.ofNat 7)) rfl ?_
  refine Go.iconst W0.cx d_method_3_78 (z := (4 : Int32)) rfl ?_
  refine Go.icne W0.cx d_method_3_79 (by decide) (q := 106) rfl (fun _ => ?_) (fun hh => (by first | exact absurd (by decide : ¬ Int32.ofNat 7 = 4) hh | exact absurd hh (by decide : ¬ Int32.ofNat 7 = 4)))
  refine Go.iload_n W0.cx d_method_3_106 (v := (Int32.ofNat 7)) rfl ?_
  refine Go.iconst W0.cx d_method_3_107 (z := (5 : Int32)) rfl ?_
  refine Go.icne W0.cx d_method_3_108 (by decide) (q := 137) rfl (fun _ => ?_) (fun hh => (by first | exact absurd (by decide : ¬ Int32.ofNat 7 = 5) hh | exact absurd hh (by decide : ¬ Int32.ofNat 7 = 5)))
  refine Go.iload_n W0.cx d_method_3_137 (v := (Int32.ofNat 7)) rfl ?_
  refine Go.bipush W0.cx d_method_3_138 (z := (6 : Int32)) rfl ?_
  refine Go.icne W0.cx d_method_3_140 (by decide) (q := 164) rfl (fun _ => ?_) (fun hh => (by first | exact absurd (by decide : ¬ Int32.ofNat 7 = 6) hh | exact absurd hh (by decide : ¬ Int32.ofNat 7 = 6)))
  refine Go.iconst W0.cx d_method_3_164 (z := (4 : Int32)) rfl ?_
  refine Go.newarr W0 d_method_3_165 (wd hw 8 rfl) (z := (4 : Int32)) (cap := 4) (by decide) (by decide) (by decide) (cells' := 1) (slots' := 4) rfl rfl (by decide) (by decide) ?_
  intro T1 h1 a1 ka1 g1 W1 E1 A1
  have V1 : CArr Z h1 a1 ka1 [0, 0, 0, 0] := CArr.of_new A1 (k := 4) rfl rfl
  refine Go.dup W1.cx d_method_3_167 rfl ?_
  refine Go.iconst W1.cx d_method_3_168 (z := (0 : Int32)) rfl ?_
  refine Go.bipush W1.cx d_method_3_169 (z := (34 : Int32)) rfl ?_
  refine Go.castore W1 0 d_method_3_171 V1 (by simp) rfl (Nat.le_of_ble_eq_true rfl) (Nat.le_of_ble_eq_true rfl) (x' := (34 : Int32)) (nar_ch (by decide)) ?_
  intro T2 h2 W2 K2 V2
  have V2 : CArr Z h2 a1 ka1 [(34 : Int32), 0, 0, 0] := V2
  have X2 : Ext h0 h2 := ext_keep E1 K2 (all1 (Nat.le_of_eq g1.symm))
  refine Go.dup W2.cx d_method_3_172 rfl ?_
  refine Go.iconst W2.cx d_method_3_173 (z := (1 : Int32)) rfl ?_
  refine Go.bipush W2.cx d_method_3_174 (z := (92 : Int32)) rfl ?_
  refine Go.castore W2 1 d_method_3_176 V2 (by simp) rfl (Nat.le_of_ble_eq_true rfl) (Nat.le_of_ble_eq_true rfl) (x' := (92 : Int32)) (nar_ch (by decide)) ?_
  intro T3 h3 W3 K3 V3
  have V3 : CArr Z h3 a1 ka1 [(34 : Int32), (92 : Int32), 0, 0] := V3
  have X3 : Ext h0 h3 := ext_keep X2 K3 (all1 (Nat.le_of_eq g1.symm))
  refine Go.dup W3.cx d_method_3_177 rfl ?_
  refine Go.iconst W3.cx d_method_3_178 (z := (2 : Int32)) rfl ?_
  refine Go.bipush W3.cx d_method_3_179 (z := (34 : Int32)) rfl ?_
  refine Go.castore W3 2 d_method_3_181 V3 (by simp) rfl (Nat.le_of_ble_eq_true rfl) (Nat.le_of_ble_eq_true rfl) (x' := (34 : Int32)) (nar_ch (by decide)) ?_
  intro T4 h4 W4 K4 V4
  have V4 : CArr Z h4 a1 ka1 [(34 : Int32), (92 : Int32), (34 : Int32), 0] := V4
  have X4 : Ext h0 h4 := ext_keep X3 K4 (all1 (Nat.le_of_eq g1.symm))
  refine Go.dup W4.cx d_method_3_182 rfl ?_
  refine Go.iconst W4.cx d_method_3_183 (z := (3 : Int32)) rfl ?_
  refine Go.iload_n W4.cx d_method_3_184 (v := y) rfl ?_
  refine Go.castore W4 3 d_method_3_185 V4 (by simp) rfl (Nat.le_of_ble_eq_true rfl) (Nat.le_of_ble_eq_true rfl) (x' := y) (nar_ch hy) ?_
  intro T5 h5 W5 K5 V5
  have V5 : CArr Z h5 a1 ka1 [(34 : Int32), (92 : Int32), (34 : Int32), y] := V5
  have X5 : Ext h0 h5 := ext_keep X4 K5 (all1 (Nat.le_of_eq g1.symm))
  exact Go.aret W5 d_method_3_186 rfl rfl rfl (by decide) (by decide) ⟨_, rfl, _, _, rfl, X5, Nat.le_of_eq g1.symm, V5⟩
theorem c_core (l : Launch) (Z : State) (a0 : Array Value) (hw : ∀ d ∈ tables_1, d.before a0 Z = true) (hE : EW Z a0 EL0) {n0 : Nat} {h0 : Heap} (hO : Old Z n0 h0) {x y : Int32} (hx : ¬ x < 0 ∧ ¬ (255 : Int32) < x) (hy : ¬ y < 0 ∧ ¬ (255 : Int32) < y) {n : Nat} (hn : n < 8) :
    Ctr NW EL0 n0 Z [] l (⟨"com/example/wheal/wheal/FieldValuesSplitPinLaw", "core", "(ICC)[C"⟩ : MethodName) method_3_code 3 (some (.array .char)) ({ frames := 0, cells := 1, slots := 5, locals := 0 } : Room) #[.int (Int32.ofNat n), .int x, .int y] h0 (RV fun w h => ∃ r kr, w = .ref r ∧ Ext h0 h ∧ h0.size ≤ r ∧ CArr Z h r kr (coreL n x y)) := by
  rcases (show n = 0 ∨ n = 1 ∨ n = 2 ∨ n = 3 ∨ n = 4 ∨ n = 5 ∨ n = 6 ∨ n = 7 by omega) with rfl | rfl | rfl | rfl | rfl | rfl | rfl | rfl
  · exact c_core0 l Z a0 hw hE hO hx hy
  · exact c_core1 l Z a0 hw hE hO hx hy
  · exact c_core2 l Z a0 hw hE hO hx hy
  · exact c_core3 l Z a0 hw hE hO hx hy
  · exact c_core4 l Z a0 hw hE hO hx hy
  · exact c_core5 l Z a0 hw hE hO hx hy
  · exact c_core6 l Z a0 hw hE hO hx hy
  · exact c_core7 l Z a0 hw hE hO hx hy
def put (P : List Int32) : Nat → List Int32 → List Int32
  | _, [] => P
  | k, c :: r => put (P.set k c) (k + 1) r
def fill6 (P : List Int32) (off : Nat) (w : Int32) : List Int32 := (((((P.set off w).set (off + 1) w).set (off + 2) w).set (off + 3) w).set (off + 4) w).set (off + 5) w
theorem l5 {cl : List Int32} (h : cl.length ≤ 5) : cl = [] ∨ (∃ c0, cl = [c0]) ∨ (∃ c0 c1, cl = [c0, c1]) ∨ (∃ c0 c1 c2, cl = [c0, c1, c2]) ∨ (∃ c0 c1 c2 c3, cl = [c0, c1, c2, c3]) ∨ (∃ c0 c1 c2 c3 c4, cl = [c0, c1, c2, c3, c4]) := by
  match cl, h with
  | [], _ => simp
  | [a], _ => simp
  | [a, b], _ => simp
  | [a, b, c], _ => simp
  | [a, b, c, d], _ => simp
  | [a, b, c, d, e], _ => simp
  | a :: b :: c :: d :: e :: f :: r, h => simp at h
theorem keep_tr {h0 h1 h2 : Heap} {ws : List Addr} (K0 : Keep h0 h1 ws) (K : Keep h1 h2 ws) : Keep h0 h2 ws := by
  refine ⟨Nat.le_trans K0.1 K.1, fun x c q hx => K.2.1 x c (K0.2.1 x c q hx) hx, fun x c q => ?_⟩
  obtain ⟨c1, q1, r1, r2, r3⟩ := K0.2.2 x c q
  obtain ⟨c2, q2, s1, s2, s3⟩ := K.2.2 x c1 q1
  exact ⟨c2, q2, s1.trans r1, s2.trans r2, s3.trans r3⟩
theorem d_method_4_0 : Dec method_4_code 0 (.aload_n 0) 1 1 := ⟨by decide +kernel, rfl⟩
theorem d_method_4_1 : Dec method_4_code 1 (.iload_n 1) 1 2 := ⟨by decide +kernel, rfl⟩
theorem d_method_4_2 : Dec method_4_code 2 (.iload 4) 2 4 := ⟨by decide +kernel, rfl⟩
theorem d_method_4_4 : Dec method_4_code 4 (.castore) 1 5 := ⟨by decide +kernel, rfl⟩
theorem d_method_4_5 : Dec method_4_code 5 (.aload_n 0) 1 6 := ⟨by decide +kernel, rfl⟩
theorem d_method_4_6 : Dec method_4_code 6 (.iload_n 1) 1 7 := ⟨by decide +kernel, rfl⟩
theorem d_method_4_7 : Dec method_4_code 7 (.iconst 1) 1 8 := ⟨by decide +kernel, rfl⟩
theorem d_method_4_8 : Dec method_4_code 8 (.iadd) 1 9 := ⟨by decide +kernel, rfl⟩
theorem d_method_4_9 : Dec method_4_code 9 (.iload 4) 2 11 := ⟨by decide +kernel, rfl⟩
theorem d_method_4_11 : Dec method_4_code 11 (.castore) 1 12 := ⟨by decide +kernel, rfl⟩
theorem d_method_4_12 : Dec method_4_code 12 (.aload_n 0) 1 13 := ⟨by decide +kernel, rfl⟩
theorem d_method_4_13 : Dec method_4_code 13 (.iload_n 1) 1 14 := ⟨by decide +kernel, rfl⟩
theorem d_method_4_14 : Dec method_4_code 14 (.iconst 2) 1 15 := ⟨by decide +kernel, rfl⟩
theorem d_method_4_15 : Dec method_4_code 15 (.iadd) 1 16 := ⟨by decide +kernel, rfl⟩
theorem d_method_4_16 : Dec method_4_code 16 (.iload 4) 2 18 := ⟨by decide +kernel, rfl⟩
theorem d_method_4_18 : Dec method_4_code 18 (.castore) 1 19 := ⟨by decide +kernel, rfl⟩
theorem d_method_4_19 : Dec method_4_code 19 (.aload_n 0) 1 20 := ⟨by decide +kernel, rfl⟩
theorem d_method_4_20 : Dec method_4_code 20 (.iload_n 1) 1 21 := ⟨by decide +kernel, rfl⟩
theorem d_method_4_21 : Dec method_4_code 21 (.iconst 3) 1 22 := ⟨by decide +kernel, rfl⟩
theorem d_method_4_22 : Dec method_4_code 22 (.iadd) 1 23 := ⟨by decide +kernel, rfl⟩
theorem d_method_4_23 : Dec method_4_code 23 (.iload 4) 2 25 := ⟨by decide +kernel, rfl⟩
theorem d_method_4_25 : Dec method_4_code 25 (.castore) 1 26 := ⟨by decide +kernel, rfl⟩
theorem d_method_4_26 : Dec method_4_code 26 (.aload_n 0) 1 27 := ⟨by decide +kernel, rfl⟩
theorem d_method_4_27 : Dec method_4_code 27 (.iload_n 1) 1 28 := ⟨by decide +kernel, rfl⟩
theorem d_method_4_28 : Dec method_4_code 28 (.iconst 4) 1 29 := ⟨by decide +kernel, rfl⟩
theorem d_method_4_29 : Dec method_4_code 29 (.iadd) 1 30 := ⟨by decide +kernel, rfl⟩
theorem d_method_4_30 : Dec method_4_code 30 (.iload 4) 2 32 := ⟨by decide +kernel, rfl⟩
theorem d_method_4_32 : Dec method_4_code 32 (.castore) 1 33 := ⟨by decide +kernel, rfl⟩
theorem d_method_4_33 : Dec method_4_code 33 (.aload_n 0) 1 34 := ⟨by decide +kernel, rfl⟩
theorem d_method_4_34 : Dec method_4_code 34 (.iload_n 1) 1 35 := ⟨by decide +kernel, rfl⟩
theorem d_method_4_35 : Dec method_4_code 35 (.iconst 5) 1 36 := ⟨by decide +kernel, rfl⟩
theorem d_method_4_36 : Dec method_4_code 36 (.iadd) 1 37 := ⟨by decide +kernel, rfl⟩
theorem d_method_4_37 : Dec method_4_code 37 (.iload 4) 2 39 := ⟨by decide +kernel, rfl⟩
theorem d_method_4_39 : Dec method_4_code 39 (.castore) 1 40 := ⟨by decide +kernel, rfl⟩
theorem d_method_4_40 : Dec method_4_code 40 (.aload_n 2) 1 41 := ⟨by decide +kernel, rfl⟩
theorem d_method_4_41 : Dec method_4_code 41 (.arraylength) 1 42 := ⟨by decide +kernel, rfl⟩
theorem d_method_4_42 : Dec method_4_code 42 (.ifCond .le 11) 3 45 := ⟨by decide +kernel, rfl⟩
theorem d_method_4_53 : Dec method_4_code 53 (.aload_n 2) 1 54 := ⟨by decide +kernel, rfl⟩
theorem d_method_4_54 : Dec method_4_code 54 (.arraylength) 1 55 := ⟨by decide +kernel, rfl⟩
theorem d_method_4_55 : Dec method_4_code 55 (.iconst 1) 1 56 := ⟨by decide +kernel, rfl⟩
theorem d_method_4_56 : Dec method_4_code 56 (.if_icmp .le 13) 3 59 := ⟨by decide +kernel, rfl⟩
theorem d_method_4_69 : Dec method_4_code 69 (.aload_n 2) 1 70 := ⟨by decide +kernel, rfl⟩
theorem d_method_4_70 : Dec method_4_code 70 (.arraylength) 1 71 := ⟨by decide +kernel, rfl⟩
theorem d_method_4_71 : Dec method_4_code 71 (.iconst 2) 1 72 := ⟨by decide +kernel, rfl⟩
theorem d_method_4_72 : Dec method_4_code 72 (.if_icmp .le 13) 3 75 := ⟨by decide +kernel, rfl⟩
theorem d_method_4_85 : Dec method_4_code 85 (.aload_n 2) 1 86 := ⟨by decide +kernel, rfl⟩
theorem d_method_4_86 : Dec method_4_code 86 (.arraylength) 1 87 := ⟨by decide +kernel, rfl⟩
theorem d_method_4_87 : Dec method_4_code 87 (.iconst 3) 1 88 := ⟨by decide +kernel, rfl⟩
theorem d_method_4_88 : Dec method_4_code 88 (.if_icmp .le 13) 3 91 := ⟨by decide +kernel, rfl⟩
theorem d_method_4_101 : Dec method_4_code 101 (.aload_n 2) 1 102 := ⟨by decide +kernel, rfl⟩
theorem d_method_4_102 : Dec method_4_code 102 (.arraylength) 1 103 := ⟨by decide +kernel, rfl⟩
theorem d_method_4_103 : Dec method_4_code 103 (.iconst 4) 1 104 := ⟨by decide +kernel, rfl⟩
theorem d_method_4_104 : Dec method_4_code 104 (.if_icmp .le 13) 3 107 := ⟨by decide +kernel, rfl⟩
theorem d_method_4_117 : Dec method_4_code 117 (.return_) 1 118 := ⟨by decide +kernel, rfl⟩
theorem d_method_4_45 : Dec method_4_code 45 (.aload_n 0) 1 46 := ⟨by decide +kernel, rfl⟩
theorem d_method_4_46 : Dec method_4_code 46 (.iload_n 1) 1 47 := ⟨by decide +kernel, rfl⟩
theorem d_method_4_47 : Dec method_4_code 47 (.iload_n 3) 1 48 := ⟨by decide +kernel, rfl⟩
theorem d_method_4_48 : Dec method_4_code 48 (.iadd) 1 49 := ⟨by decide +kernel, rfl⟩
theorem d_method_4_49 : Dec method_4_code 49 (.aload_n 2) 1 50 := ⟨by decide +kernel, rfl⟩
theorem d_method_4_50 : Dec method_4_code 50 (.iconst 0) 1 51 := ⟨by decide +kernel, rfl⟩
theorem d_method_4_51 : Dec method_4_code 51 (.caload) 1 52 := ⟨by decide +kernel, rfl⟩
theorem d_method_4_52 : Dec method_4_code 52 (.castore) 1 53 := ⟨by decide +kernel, rfl⟩
theorem d_method_4_59 : Dec method_4_code 59 (.aload_n 0) 1 60 := ⟨by decide +kernel, rfl⟩
theorem d_method_4_60 : Dec method_4_code 60 (.iload_n 1) 1 61 := ⟨by decide +kernel, rfl⟩
theorem d_method_4_61 : Dec method_4_code 61 (.iload_n 3) 1 62 := ⟨by decide +kernel, rfl⟩
theorem d_method_4_62 : Dec method_4_code 62 (.iadd) 1 63 := ⟨by decide +kernel, rfl⟩
theorem d_method_4_63 : Dec method_4_code 63 (.iconst 1) 1 64 := ⟨by decide +kernel, rfl⟩
theorem d_method_4_64 : Dec method_4_code 64 (.iadd) 1 65 := ⟨by decide +kernel, rfl⟩
theorem d_method_4_65 : Dec method_4_code 65 (.aload_n 2) 1 66 := ⟨by decide +kernel, rfl⟩
theorem d_method_4_66 : Dec method_4_code 66 (.iconst 1) 1 67 := ⟨by decide +kernel, rfl⟩
theorem d_method_4_67 : Dec method_4_code 67 (.caload) 1 68 := ⟨by decide +kernel, rfl⟩
theorem d_method_4_68 : Dec method_4_code 68 (.castore) 1 69 := ⟨by decide +kernel, rfl⟩
theorem d_method_4_75 : Dec method_4_code 75 (.aload_n 0) 1 76 := ⟨by decide +kernel, rfl⟩
theorem d_method_4_76 : Dec method_4_code 76 (.iload_n 1) 1 77 := ⟨by decide +kernel, rfl⟩
theorem d_method_4_77 : Dec method_4_code 77 (.iload_n 3) 1 78 := ⟨by decide +kernel, rfl⟩
theorem d_method_4_78 : Dec method_4_code 78 (.iadd) 1 79 := ⟨by decide +kernel, rfl⟩
theorem d_method_4_79 : Dec method_4_code 79 (.iconst 2) 1 80 := ⟨by decide +kernel, rfl⟩
theorem d_method_4_80 : Dec method_4_code 80 (.iadd) 1 81 := ⟨by decide +kernel, rfl⟩
theorem d_method_4_81 : Dec method_4_code 81 (.aload_n 2) 1 82 := ⟨by decide +kernel, rfl⟩
theorem d_method_4_82 : Dec method_4_code 82 (.iconst 2) 1 83 := ⟨by decide +kernel, rfl⟩
theorem d_method_4_83 : Dec method_4_code 83 (.caload) 1 84 := ⟨by decide +kernel, rfl⟩
theorem d_method_4_84 : Dec method_4_code 84 (.castore) 1 85 := ⟨by decide +kernel, rfl⟩
theorem d_method_4_91 : Dec method_4_code 91 (.aload_n 0) 1 92 := ⟨by decide +kernel, rfl⟩
theorem d_method_4_92 : Dec method_4_code 92 (.iload_n 1) 1 93 := ⟨by decide +kernel, rfl⟩
theorem d_method_4_93 : Dec method_4_code 93 (.iload_n 3) 1 94 := ⟨by decide +kernel, rfl⟩
theorem d_method_4_94 : Dec method_4_code 94 (.iadd) 1 95 := ⟨by decide +kernel, rfl⟩
theorem d_method_4_95 : Dec method_4_code 95 (.iconst 3) 1 96 := ⟨by decide +kernel, rfl⟩
theorem d_method_4_96 : Dec method_4_code 96 (.iadd) 1 97 := ⟨by decide +kernel, rfl⟩
theorem d_method_4_97 : Dec method_4_code 97 (.aload_n 2) 1 98 := ⟨by decide +kernel, rfl⟩
theorem d_method_4_98 : Dec method_4_code 98 (.iconst 3) 1 99 := ⟨by decide +kernel, rfl⟩
theorem d_method_4_99 : Dec method_4_code 99 (.caload) 1 100 := ⟨by decide +kernel, rfl⟩
theorem d_method_4_100 : Dec method_4_code 100 (.castore) 1 101 := ⟨by decide +kernel, rfl⟩
theorem d_method_4_107 : Dec method_4_code 107 (.aload_n 0) 1 108 := ⟨by decide +kernel, rfl⟩
theorem d_method_4_108 : Dec method_4_code 108 (.iload_n 1) 1 109 := ⟨by decide +kernel, rfl⟩
theorem d_method_4_109 : Dec method_4_code 109 (.iload_n 3) 1 110 := ⟨by decide +kernel, rfl⟩
theorem d_method_4_110 : Dec method_4_code 110 (.iadd) 1 111 := ⟨by decide +kernel, rfl⟩
theorem d_method_4_111 : Dec method_4_code 111 (.iconst 4) 1 112 := ⟨by decide +kernel, rfl⟩
theorem d_method_4_112 : Dec method_4_code 112 (.iadd) 1 113 := ⟨by decide +kernel, rfl⟩
theorem d_method_4_113 : Dec method_4_code 113 (.aload_n 2) 1 114 := ⟨by decide +kernel, rfl⟩
theorem d_method_4_114 : Dec method_4_code 114 (.iconst 4) 1 115 := ⟨by decide +kernel, rfl⟩
theorem d_method_4_115 : Dec method_4_code 115 (.caload) 1 116 := ⟨by decide +kernel, rfl⟩
theorem d_method_4_116 : Dec method_4_code 116 (.castore) 1 117 := ⟨by decide +kernel, rfl⟩
set_option maxRecDepth 65536 in
set_option maxHeartbeats 40000000 in
theorem c_place (l : Launch) (Z : State) (a0 : Array Value) (hw : ∀ d ∈ tables_1, d.before a0 Z = true) (hE : EW Z a0 EL0) {n0 : Nat} {h0 : Heap} (hO : Old Z n0 h0) {t c0a : Addr} {kt kc : ClassId} {P cl : List Int32} (A : CArr Z h0 t kt P) (C0 : CArr Z h0 c0a kc cl) (ht : n0 ≤ t) (htc : t ≠ c0a) (hPl : P.length = 20) (hcl : cl.length ≤ 5) (hpc : ∀ c ∈ cl, ¬ c < 0 ∧ ¬ (255 : Int32) < c) {off ld : Nat} (hof : off ≤ 14) (hld : ld + cl.length ≤ 6) {w0 : Int32} (hw0 : ¬ w0 < 0 ∧ ¬ (255 : Int32) < w0) :
    Ctr NW EL0 n0 Z [t] l (⟨"com/example/wheal/wheal/FieldValuesSplitPinLaw", "place", "([CI[CIC)V"⟩ : MethodName) method_4_code 5 none ({ frames := 0, cells := 0, slots := 0, locals := 0 } : Room) #[.ref t, .int (Int32.ofNat off), .ref c0a, .int (Int32.ofNat ld), .int w0] h0 (RN fun h => Keep h0 h [t] ∧ CArr Z h t kt (put (fill6 P off w0) (off + ld) cl)) := by
  refine Ctr.body (plainFor_of_name pn_10) hE hO (fun z q => by cases List.mem_singleton.mp q; exact ⟨ht, A.lt⟩) (L0 := #[.val (.ref t), .val (.int (Int32.ofNat off)), .val (.ref c0a), .val (.int (Int32.ofNat ld)), .val (.int w0)]) (fun m => by first | (simp [entryFrame, mkF, argsToLocals, Value.category, maxLocals]; done) | rfl) ?_
  intro p e s m below meth c T0 W0
  refine Go.aload_n W0.cx d_method_4_0 (v := (.ref t)) rfl rfl ?_
  refine Go.iload_n W0.cx d_method_4_1 (v := (Int32.ofNat off)) rfl ?_
  refine Go.iload W0.cx d_method_4_2 (v := w0) rfl ?_
  refine Go.castore W0 off d_method_4_4 A (by simp) rfl (by simp only [List.length_set, hPl]; omega) (by simp only [List.length_set, hPl]; decide) (x' := w0) (nar_ch hw0) ?_
  intro T1 h1 W1 K1 V1
  have C1 := C0.keep K1 (fun z => htc (List.mem_singleton.mp z).symm)
  have KK1 : Keep h0 h1 [t] := K1
  refine Go.aload_n W1.cx d_method_4_5 (v := (.ref t)) rfl rfl ?_
  refine Go.iload_n W1.cx d_method_4_6 (v := (Int32.ofNat off)) rfl ?_
  refine Go.iconst W1.cx d_method_4_7 (z := (1 : Int32)) rfl ?_
  refine Go.iadd W1.cx d_method_4_8 ?_
  refine Go.iload W1.cx d_method_4_9 (v := w0) rfl ?_
  refine Go.castore W1 (off + 1) d_method_4_11 V1 (by simp) (show Int32.ofNat off + 1 = Int32.ofNat (off + 1) from add_nat off 1) (by simp only [List.length_set, hPl]; omega) (by simp only [List.length_set, hPl]; decide) (x' := w0) (nar_ch hw0) ?_
  intro T2 h2 W2 K2 V2
  have C2 := C1.keep K2 (fun z => htc (List.mem_singleton.mp z).symm)
  have KK2 : Keep h0 h2 [t] := keep_tr KK1 K2
  refine Go.aload_n W2.cx d_method_4_12 (v := (.ref t)) rfl rfl ?_
  refine Go.iload_n W2.cx d_method_4_13 (v := (Int32.ofNat off)) rfl ?_
  refine Go.iconst W2.cx d_method_4_14 (z := (2 : Int32)) rfl ?_
  refine Go.iadd W2.cx d_method_4_15 ?_
  refine Go.iload W2.cx d_method_4_16 (v := w0) rfl ?_
  refine Go.castore W2 (off + 2) d_method_4_18 V2 (by simp) (show Int32.ofNat off + 2 = Int32.ofNat (off + 2) from add_nat off 2) (by simp only [List.length_set, hPl]; omega) (by simp only [List.length_set, hPl]; decide) (x' := w0) (nar_ch hw0) ?_
  intro T3 h3 W3 K3 V3
  have C3 := C2.keep K3 (fun z => htc (List.mem_singleton.mp z).symm)
  have KK3 : Keep h0 h3 [t] := keep_tr KK2 K3
  refine Go.aload_n W3.cx d_method_4_19 (v := (.ref t)) rfl rfl ?_
  refine Go.iload_n W3.cx d_method_4_20 (v := (Int32.ofNat off)) rfl ?_
  refine Go.iconst W3.cx d_method_4_21 (z := (3 : Int32)) rfl ?_
  refine Go.iadd W3.cx d_method_4_22 ?_
  refine Go.iload W3.cx d_method_4_23 (v := w0) rfl ?_
  refine Go.castore W3 (off + 3) d_method_4_25 V3 (by simp) (show Int32.ofNat off + 3 = Int32.ofNat (off + 3) from add_nat off 3) (by simp only [List.length_set, hPl]; omega) (by simp only [List.length_set, hPl]; decide) (x' := w0) (nar_ch hw0) ?_
  intro T4 h4 W4 K4 V4
  have C4 := C3.keep K4 (fun z => htc (List.mem_singleton.mp z).symm)
  have KK4 : Keep h0 h4 [t] := keep_tr KK3 K4
  refine Go.aload_n W4.cx d_method_4_26 (v := (.ref t)) rfl rfl ?_
  refine Go.iload_n W4.cx d_method_4_27 (v := (Int32.ofNat off)) rfl ?_
  refine Go.iconst W4.cx d_method_4_28 (z := (4 : Int32)) rfl ?_
  refine Go.iadd W4.cx d_method_4_29 ?_
  refine Go.iload W4.cx d_method_4_30 (v := w0) rfl ?_
  refine Go.castore W4 (off + 4) d_method_4_32 V4 (by simp) (show Int32.ofNat off + 4 = Int32.ofNat (off + 4) from add_nat off 4) (by simp only [List.length_set, hPl]; omega) (by simp only [List.length_set, hPl]; decide) (x' := w0) (nar_ch hw0) ?_
  intro T5 h5 W5 K5 V5
  have C5 := C4.keep K5 (fun z => htc (List.mem_singleton.mp z).symm)
  have KK5 : Keep h0 h5 [t] := keep_tr KK4 K5
  refine Go.aload_n W5.cx d_method_4_33 (v := (.ref t)) rfl rfl ?_
  refine Go.iload_n W5.cx d_method_4_34 (v := (Int32.ofNat off)) rfl ?_
  refine Go.iconst W5.cx d_method_4_35 (z := (5 : Int32)) rfl ?_
  refine Go.iadd W5.cx d_method_4_36 ?_
  refine Go.iload W5.cx d_method_4_37 (v := w0) rfl ?_
  refine Go.castore W5 (off + 5) d_method_4_39 V5 (by simp) (show Int32.ofNat off + 5 = Int32.ofNat (off + 5) from add_nat off 5) (by simp only [List.length_set, hPl]; omega) (by simp only [List.length_set, hPl]; decide) (x' := w0) (nar_ch hw0) ?_
  intro T6 h6 W6 K6 V6
  have C6 := C5.keep K6 (fun z => htc (List.mem_singleton.mp z).symm)
  have KK6 : Keep h0 h6 [t] := keep_tr KK5 K6
  rcases l5 hcl with rfl | ⟨c0, rfl⟩ | ⟨c0, c1, rfl⟩ | ⟨c0, c1, c2, rfl⟩ | ⟨c0, c1, c2, c3, rfl⟩ | ⟨c0, c1, c2, c3, c4, rfl⟩
  · refine Go.aload_n W6.cx d_method_4_40 (v := (.ref c0a)) rfl rfl ?_
    refine Go.alen W6 d_method_4_41 C6 ?_
    refine Go.ifle W6.cx d_method_4_42 (by decide) (q := 53) rfl (fun _ => ?_) (fun hh => (by first | exact absurd (by decide : ¬ (0 : Int32) < Int32.ofNat 0) hh | exact absurd hh (by decide : ¬ (0 : Int32) < Int32.ofNat 0)))
    refine Go.aload_n W6.cx d_method_4_53 (v := (.ref c0a)) rfl rfl ?_
    refine Go.alen W6 d_method_4_54 C6 ?_
    refine Go.iconst W6.cx d_method_4_55 (z := (1 : Int32)) rfl ?_
    refine Go.icle W6.cx d_method_4_56 (by decide) (q := 69) rfl (fun _ => ?_) (fun hh => (by first | exact absurd (by decide : ¬ (1 : Int32) < Int32.ofNat 0) hh | exact absurd hh (by decide : ¬ (1 : Int32) < Int32.ofNat 0)))
    refine Go.aload_n W6.cx d_method_4_69 (v := (.ref c0a)) rfl rfl ?_
    refine Go.alen W6 d_method_4_70 C6 ?_
    refine Go.iconst W6.cx d_method_4_71 (z := (2 : Int32)) rfl ?_
    refine Go.icle W6.cx d_method_4_72 (by decide) (q := 85) rfl (fun _ => ?_) (fun hh => (by first | exact absurd (by decide : ¬ (2 : Int32) < Int32.ofNat 0) hh | exact absurd hh (by decide : ¬ (2 : Int32) < Int32.ofNat 0)))
    refine Go.aload_n W6.cx d_method_4_85 (v := (.ref c0a)) rfl rfl ?_
    refine Go.alen W6 d_method_4_86 C6 ?_
    refine Go.iconst W6.cx d_method_4_87 (z := (3 : Int32)) rfl ?_
    refine Go.icle W6.cx d_method_4_88 (by decide) (q := 101) rfl (fun _ => ?_) (fun hh => (by first | exact absurd (by decide : ¬ (3 : Int32) < Int32.ofNat 0) hh | exact absurd hh (by decide : ¬ (3 : Int32) < Int32.ofNat 0)))
    refine Go.aload_n W6.cx d_method_4_101 (v := (.ref c0a)) rfl rfl ?_
    refine Go.alen W6 d_method_4_102 C6 ?_
    refine Go.iconst W6.cx d_method_4_103 (z := (4 : Int32)) rfl ?_
    refine Go.icle W6.cx d_method_4_104 (by decide) (q := 117) rfl (fun _ => ?_) (fun hh => (by first | exact absurd (by decide : ¬ (4 : Int32) < Int32.ofNat 0) hh | exact absurd hh (by decide : ¬ (4 : Int32) < Int32.ofNat 0)))
    exact Go.vret W6 d_method_4_117 (by decide) (by decide) ⟨rfl, KK6, V6⟩
  · simp only [List.length_cons, List.length_nil] at hld
    refine Go.aload_n W6.cx d_method_4_40 (v := (.ref c0a)) rfl rfl ?_
    refine Go.alen W6 d_method_4_41 C6 ?_
    refine Go.ifle W6.cx d_method_4_42 (by decide) (q := 53) rfl (fun hh => (by first | exact absurd (by decide : (0 : Int32) < Int32.ofNat 1) hh | exact absurd hh (by decide : (0 : Int32) < Int32.ofNat 1))) (fun _ => ?_)
    refine Go.aload_n W6.cx d_method_4_45 (v := (.ref t)) rfl rfl ?_
    refine Go.iload_n W6.cx d_method_4_46 (v := (Int32.ofNat off)) rfl ?_
    refine Go.iload_n W6.cx d_method_4_47 (v := (Int32.ofNat ld)) rfl ?_
    refine Go.iadd W6.cx d_method_4_48 ?_
    refine Go.aload_n W6.cx d_method_4_49 (v := (.ref c0a)) rfl rfl ?_
    refine Go.iconst W6.cx d_method_4_50 (z := (0 : Int32)) rfl ?_
    refine Go.caload W6 0 d_method_4_51 C6 rfl (by simp) (by simp) (v := c0) rfl ?_
    refine Go.castore W6 (off + ld) d_method_4_52 V6 (by simp) (add_nat off ld) (by simp only [List.length_set, hPl]; omega) (by simp only [List.length_set, hPl]; decide) (x' := c0) (nar_ch (hpc c0 (by simp))) ?_
    intro T7 h7 W7 K7 V7
    have C7 := C6.keep K7 (fun z => htc (List.mem_singleton.mp z).symm)
    have KK7 : Keep h0 h7 [t] := keep_tr KK6 K7
    refine Go.aload_n W7.cx d_method_4_53 (v := (.ref c0a)) rfl rfl ?_
    refine Go.alen W7 d_method_4_54 C7 ?_
    refine Go.iconst W7.cx d_method_4_55 (z := (1 : Int32)) rfl ?_
    refine Go.icle W7.cx d_method_4_56 (by decide) (q := 69) rfl (fun _ => ?_) (fun hh => (by first | exact absurd (by decide : ¬ (1 : Int32) < Int32.ofNat 1) hh | exact absurd hh (by decide : ¬ (1 : Int32) < Int32.ofNat 1)))
    refine Go.aload_n W7.cx d_method_4_69 (v := (.ref c0a)) rfl rfl ?_
    refine Go.alen W7 d_method_4_70 C7 ?_
    refine Go.iconst W7.cx d_method_4_71 (z := (2 : Int32)) rfl ?_
    refine Go.icle W7.cx d_method_4_72 (by decide) (q := 85) rfl (fun _ => ?_) (fun hh => (by first | exact absurd (by decide : ¬ (2 : Int32) < Int32.ofNat 1) hh | exact absurd hh (by decide : ¬ (2 : Int32) < Int32.ofNat 1)))
    refine Go.aload_n W7.cx d_method_4_85 (v := (.ref c0a)) rfl rfl ?_
    refine Go.alen W7 d_method_4_86 C7 ?_
    refine Go.iconst W7.cx d_method_4_87 (z := (3 : Int32)) rfl ?_
    refine Go.icle W7.cx d_method_4_88 (by decide) (q := 101) rfl (fun _ => ?_) (fun hh => (by first | exact absurd (by decide : ¬ (3 : Int32) < Int32.ofNat 1) hh | exact absurd hh (by decide : ¬ (3 : Int32) < Int32.ofNat 1)))
    refine Go.aload_n W7.cx d_method_4_101 (v := (.ref c0a)) rfl rfl ?_
    refine Go.alen W7 d_method_4_102 C7 ?_
    refine Go.iconst W7.cx d_method_4_103 (z := (4 : Int32)) rfl ?_
    refine Go.icle W7.cx d_method_4_104 (by decide) (q := 117) rfl (fun _ => ?_) (fun hh => (by first | exact absurd (by decide : ¬ (4 : Int32) < Int32.ofNat 1) hh | exact absurd hh (by decide : ¬ (4 : Int32) < Int32.ofNat 1)))
    exact Go.vret W7 d_method_4_117 (by decide) (by decide) ⟨rfl, KK7, V7⟩
  · simp only [List.length_cons, List.length_nil] at hld
    refine Go.aload_n W6.cx d_method_4_40 (v := (.ref c0a)) rfl rfl ?_
    refine Go.alen W6 d_method_4_41 C6 ?_
    refine Go.ifle W6.cx d_method_4_42 (by decide) (q := 53) rfl (fun hh => (by first | exact absurd (by decide : (0 : Int32) < Int32.ofNat 2) hh | exact absurd hh (by decide : (0 : Int32) < Int32.ofNat 2))) (fun _ => ?_)
    refine Go.aload_n W6.cx d_method_4_45 (v := (.ref t)) rfl rfl ?_
    refine Go.iload_n W6.cx d_method_4_46 (v := (Int32.ofNat off)) rfl ?_
    refine Go.iload_n W6.cx d_method_4_47 (v := (Int32.ofNat ld)) rfl ?_
    refine Go.iadd W6.cx d_method_4_48 ?_
    refine Go.aload_n W6.cx d_method_4_49 (v := (.ref c0a)) rfl rfl ?_
    refine Go.iconst W6.cx d_method_4_50 (z := (0 : Int32)) rfl ?_
    refine Go.caload W6 0 d_method_4_51 C6 rfl (by simp) (by simp) (v := c0) rfl ?_
    refine Go.castore W6 (off + ld) d_method_4_52 V6 (by simp) (add_nat off ld) (by simp only [List.length_set, hPl]; omega) (by simp only [List.length_set, hPl]; decide) (x' := c0) (nar_ch (hpc c0 (by simp))) ?_
    intro T8 h8 W8 K8 V8
    have C8 := C6.keep K8 (fun z => htc (List.mem_singleton.mp z).symm)
    have KK8 : Keep h0 h8 [t] := keep_tr KK6 K8
    refine Go.aload_n W8.cx d_method_4_53 (v := (.ref c0a)) rfl rfl ?_
    refine Go.alen W8 d_method_4_54 C8 ?_
    refine Go.iconst W8.cx d_method_4_55 (z := (1 : Int32)) rfl ?_
    refine Go.icle W8.cx d_method_4_56 (by decide) (q := 69) rfl (fun hh => (by first | exact absurd (by decide : (1 : Int32) < Int32.ofNat 2) hh | exact absurd hh (by decide : (1 : Int32) < Int32.ofNat 2))) (fun _ => ?_)
    refine Go.aload_n W8.cx d_method_4_59 (v := (.ref t)) rfl rfl ?_
    refine Go.iload_n W8.cx d_method_4_60 (v := (Int32.ofNat off)) rfl ?_
    refine Go.iload_n W8.cx d_method_4_61 (v := (Int32.ofNat ld)) rfl ?_
    refine Go.iadd W8.cx d_method_4_62 ?_
    refine Go.iconst W8.cx d_method_4_63 (z := (1 : Int32)) rfl ?_
    refine Go.iadd W8.cx d_method_4_64 ?_
    refine Go.aload_n W8.cx d_method_4_65 (v := (.ref c0a)) rfl rfl ?_
    refine Go.iconst W8.cx d_method_4_66 (z := (1 : Int32)) rfl ?_
    refine Go.caload W8 1 d_method_4_67 C8 rfl (by simp) (by simp) (v := c1) rfl ?_
    refine Go.castore W8 (off + ld + 1) d_method_4_68 V8 (by simp) (by rw [add_nat]; exact add_nat (off + ld) 1) (by simp only [List.length_set, hPl]; omega) (by simp only [List.length_set, hPl]; decide) (x' := c1) (nar_ch (hpc c1 (by simp))) ?_
    intro T9 h9 W9 K9 V9
    have C9 := C8.keep K9 (fun z => htc (List.mem_singleton.mp z).symm)
    have KK9 : Keep h0 h9 [t] := keep_tr KK8 K9
    refine Go.aload_n W9.cx d_method_4_69 (v := (.ref c0a)) rfl rfl ?_
    refine Go.alen W9 d_method_4_70 C9 ?_
    refine Go.iconst W9.cx d_method_4_71 (z := (2 : Int32)) rfl ?_
    refine Go.icle W9.cx d_method_4_72 (by decide) (q := 85) rfl (fun _ => ?_) (fun hh => (by first | exact absurd (by decide : ¬ (2 : Int32) < Int32.ofNat 2) hh | exact absurd hh (by decide : ¬ (2 : Int32) < Int32.ofNat 2)))
    refine Go.aload_n W9.cx d_method_4_85 (v := (.ref c0a)) rfl rfl ?_
    refine Go.alen W9 d_method_4_86 C9 ?_
    refine Go.iconst W9.cx d_method_4_87 (z := (3 : Int32)) rfl ?_
    refine Go.icle W9.cx d_method_4_88 (by decide) (q := 101) rfl (fun _ => ?_) (fun hh => (by first | exact absurd (by decide : ¬ (3 : Int32) < Int32.ofNat 2) hh | exact absurd hh (by decide : ¬ (3 : Int32) < Int32.ofNat 2)))
    refine Go.aload_n W9.cx d_method_4_101 (v := (.ref c0a)) rfl rfl ?_
    refine Go.alen W9 d_method_4_102 C9 ?_
    refine Go.iconst W9.cx d_method_4_103 (z := (4 : Int32)) rfl ?_
    refine Go.icle W9.cx d_method_4_104 (by decide) (q := 117) rfl (fun _ => ?_) (fun hh => (by first | exact absurd (by decide : ¬ (4 : Int32) < Int32.ofNat 2) hh | exact absurd hh (by decide : ¬ (4 : Int32) < Int32.ofNat 2)))
    exact Go.vret W9 d_method_4_117 (by decide) (by decide) ⟨rfl, KK9, V9⟩
  · simp only [List.length_cons, List.length_nil] at hld
    refine Go.aload_n W6.cx d_method_4_40 (v := (.ref c0a)) rfl rfl ?_
    refine Go.alen W6 d_method_4_41 C6 ?_
    refine Go.ifle W6.cx d_method_4_42 (by decide) (q := 53) rfl (fun hh => (by first | exact absurd (by decide : (0 : Int32) < Int32.ofNat 3) hh | exact absurd hh (by decide : (0 : Int32) < Int32.ofNat 3))) (fun _ => ?_)
    refine Go.aload_n W6.cx d_method_4_45 (v := (.ref t)) rfl rfl ?_
    refine Go.iload_n W6.cx d_method_4_46 (v := (Int32.ofNat off)) rfl ?_
    refine Go.iload_n W6.cx d_method_4_47 (v := (Int32.ofNat ld)) rfl ?_
    refine Go.iadd W6.cx d_method_4_48 ?_
    refine Go.aload_n W6.cx d_method_4_49 (v := (.ref c0a)) rfl rfl ?_
    refine Go.iconst W6.cx d_method_4_50 (z := (0 : Int32)) rfl ?_
    refine Go.caload W6 0 d_method_4_51 C6 rfl (by simp) (by simp) (v := c0) rfl ?_
    refine Go.castore W6 (off + ld) d_method_4_52 V6 (by simp) (add_nat off ld) (by simp only [List.length_set, hPl]; omega) (by simp only [List.length_set, hPl]; decide) (x' := c0) (nar_ch (hpc c0 (by simp))) ?_
    intro T10 h10 W10 K10 V10
    have C10 := C6.keep K10 (fun z => htc (List.mem_singleton.mp z).symm)
    have KK10 : Keep h0 h10 [t] := keep_tr KK6 K10
    refine Go.aload_n W10.cx d_method_4_53 (v := (.ref c0a)) rfl rfl ?_
    refine Go.alen W10 d_method_4_54 C10 ?_
    refine Go.iconst W10.cx d_method_4_55 (z := (1 : Int32)) rfl ?_
    refine Go.icle W10.cx d_method_4_56 (by decide) (q := 69) rfl (fun hh => (by first | exact absurd (by decide : (1 : Int32) < Int32.ofNat 3) hh | exact absurd hh (by decide : (1 : Int32) < Int32.ofNat 3))) (fun _ => ?_)
    refine Go.aload_n W10.cx d_method_4_59 (v := (.ref t)) rfl rfl ?_
    refine Go.iload_n W10.cx d_method_4_60 (v := (Int32.ofNat off)) rfl ?_
    refine Go.iload_n W10.cx d_method_4_61 (v := (Int32.ofNat ld)) rfl ?_
    refine Go.iadd W10.cx d_method_4_62 ?_
    refine Go.iconst W10.cx d_method_4_63 (z := (1 : Int32)) rfl ?_
    refine Go.iadd W10.cx d_method_4_64 ?_
    refine Go.aload_n W10.cx d_method_4_65 (v := (.ref c0a)) rfl rfl ?_
    refine Go.iconst W10.cx d_method_4_66 (z := (1 : Int32)) rfl ?_
    refine Go.caload W10 1 d_method_4_67 C10 rfl (by simp) (by simp) (v := c1) rfl ?_
    refine Go.castore W10 (off + ld + 1) d_method_4_68 V10 (by simp) (by rw [add_nat]; exact add_nat (off + ld) 1) (by simp only [List.length_set, hPl]; omega) (by simp only [List.length_set, hPl]; decide) (x' := c1) (nar_ch (hpc c1 (by simp))) ?_
    intro T11 h11 W11 K11 V11
    have C11 := C10.keep K11 (fun z => htc (List.mem_singleton.mp z).symm)
    have KK11 : Keep h0 h11 [t] := keep_tr KK10 K11
    refine Go.aload_n W11.cx d_method_4_69 (v := (.ref c0a)) rfl rfl ?_
    refine Go.alen W11 d_method_4_70 C11 ?_
    refine Go.iconst W11.cx d_method_4_71 (z := (2 : Int32)) rfl ?_
    refine Go.icle W11.cx d_method_4_72 (by decide) (q := 85) rfl (fun hh => (by first | exact absurd (by decide : (2 : Int32) < Int32.ofNat 3) hh | exact absurd hh (by decide : (2 : Int32) < Int32.ofNat 3))) (fun _ => ?_)
    refine Go.aload_n W11.cx d_method_4_75 (v := (.ref t)) rfl rfl ?_
    refine Go.iload_n W11.cx d_method_4_76 (v := (Int32.ofNat off)) rfl ?_
    refine Go.iload_n W11.cx d_method_4_77 (v := (Int32.ofNat ld)) rfl ?_
    refine Go.iadd W11.cx d_method_4_78 ?_
    refine Go.iconst W11.cx d_method_4_79 (z := (2 : Int32)) rfl ?_
    refine Go.iadd W11.cx d_method_4_80 ?_
    refine Go.aload_n W11.cx d_method_4_81 (v := (.ref c0a)) rfl rfl ?_
    refine Go.iconst W11.cx d_method_4_82 (z := (2 : Int32)) rfl ?_
    refine Go.caload W11 2 d_method_4_83 C11 rfl (by simp) (by simp) (v := c2) rfl ?_
    refine Go.castore W11 (off + ld + 2) d_method_4_84 V11 (by simp) (by rw [add_nat]; exact add_nat (off + ld) 2) (by simp only [List.length_set, hPl]; omega) (by simp only [List.length_set, hPl]; decide) (x' := c2) (nar_ch (hpc c2 (by simp))) ?_
    intro T12 h12 W12 K12 V12
    have C12 := C11.keep K12 (fun z => htc (List.mem_singleton.mp z).symm)
    have KK12 : Keep h0 h12 [t] := keep_tr KK11 K12
    refine Go.aload_n W12.cx d_method_4_85 (v := (.ref c0a)) rfl rfl ?_
    refine Go.alen W12 d_method_4_86 C12 ?_
    refine Go.iconst W12.cx d_method_4_87 (z := (3 : Int32)) rfl ?_
    refine Go.icle W12.cx d_method_4_88 (by decide) (q := 101) rfl (fun _ => ?_) (fun hh => (by first | exact absurd (by decide : ¬ (3 : Int32) < Int32.ofNat 3) hh | exact absurd hh (by decide : ¬ (3 : Int32) < Int32.ofNat 3)))
    refine Go.aload_n W12.cx d_method_4_101 (v := (.ref c0a)) rfl rfl ?_
    refine Go.alen W12 d_method_4_102 C12 ?_
    refine Go.iconst W12.cx d_method_4_103 (z := (4 : Int32)) rfl ?_
    refine Go.icle W12.cx d_method_4_104 (by decide) (q := 117) rfl (fun _ => ?_) (fun hh => (by first | exact absurd (by decide : ¬ (4 : Int32) < Int32.ofNat 3) hh | exact absurd hh (by decide : ¬ (4 : Int32) < Int32.ofNat 3)))
    exact Go.vret W12 d_method_4_117 (by decide) (by decide) ⟨rfl, KK12, V12⟩
  · simp only [List.length_cons, List.length_nil] at hld
    refine Go.aload_n W6.cx d_method_4_40 (v := (.ref c0a)) rfl rfl ?_
    refine Go.alen W6 d_method_4_41 C6 ?_
    refine Go.ifle W6.cx d_method_4_42 (by decide) (q := 53) rfl (fun hh => (by first | exact absurd (by decide : (0 : Int32) < Int32.ofNat 4) hh | exact absurd hh (by decide : (0 : Int32) < Int32.ofNat 4))) (fun _ => ?_)
    refine Go.aload_n W6.cx d_method_4_45 (v := (.ref t)) rfl rfl ?_
    refine Go.iload_n W6.cx d_method_4_46 (v := (Int32.ofNat off)) rfl ?_
    refine Go.iload_n W6.cx d_method_4_47 (v := (Int32.ofNat ld)) rfl ?_
    refine Go.iadd W6.cx d_method_4_48 ?_
    refine Go.aload_n W6.cx d_method_4_49 (v := (.ref c0a)) rfl rfl ?_
    refine Go.iconst W6.cx d_method_4_50 (z := (0 : Int32)) rfl ?_
    refine Go.caload W6 0 d_method_4_51 C6 rfl (by simp) (by simp) (v := c0) rfl ?_
    refine Go.castore W6 (off + ld) d_method_4_52 V6 (by simp) (add_nat off ld) (by simp only [List.length_set, hPl]; omega) (by simp only [List.length_set, hPl]; decide) (x' := c0) (nar_ch (hpc c0 (by simp))) ?_
    intro T13 h13 W13 K13 V13
    have C13 := C6.keep K13 (fun z => htc (List.mem_singleton.mp z).symm)
    have KK13 : Keep h0 h13 [t] := keep_tr KK6 K13
    refine Go.aload_n W13.cx d_method_4_53 (v := (.ref c0a)) rfl rfl ?_
    refine Go.alen W13 d_method_4_54 C13 ?_
    refine Go.iconst W13.cx d_method_4_55 (z := (1 : Int32)) rfl ?_
    refine Go.icle W13.cx d_method_4_56 (by decide) (q := 69) rfl (fun hh => (by first | exact absurd (by decide : (1 : Int32) < Int32.ofNat 4) hh | exact absurd hh (by decide : (1 : Int32) < Int32.ofNat 4))) (fun _ => ?_)
    refine Go.aload_n W13.cx d_method_4_59 (v := (.ref t)) rfl rfl ?_
    refine Go.iload_n W13.cx d_method_4_60 (v := (Int32.ofNat off)) rfl ?_
    refine Go.iload_n W13.cx d_method_4_61 (v := (Int32.ofNat ld)) rfl ?_
    refine Go.iadd W13.cx d_method_4_62 ?_
    refine Go.iconst W13.cx d_method_4_63 (z := (1 : Int32)) rfl ?_
    refine Go.iadd W13.cx d_method_4_64 ?_
    refine Go.aload_n W13.cx d_method_4_65 (v := (.ref c0a)) rfl rfl ?_
    refine Go.iconst W13.cx d_method_4_66 (z := (1 : Int32)) rfl ?_
    refine Go.caload W13 1 d_method_4_67 C13 rfl (by simp) (by simp) (v := c1) rfl ?_
    refine Go.castore W13 (off + ld + 1) d_method_4_68 V13 (by simp) (by rw [add_nat]; exact add_nat (off + ld) 1) (by simp only [List.length_set, hPl]; omega) (by simp only [List.length_set, hPl]; decide) (x' := c1) (nar_ch (hpc c1 (by simp))) ?_
    intro T14 h14 W14 K14 V14
    have C14 := C13.keep K14 (fun z => htc (List.mem_singleton.mp z).symm)
    have KK14 : Keep h0 h14 [t] := keep_tr KK13 K14
    refine Go.aload_n W14.cx d_method_4_69 (v := (.ref c0a)) rfl rfl ?_
    refine Go.alen W14 d_method_4_70 C14 ?_
    refine Go.iconst W14.cx d_method_4_71 (z := (2 : Int32)) rfl ?_
    refine Go.icle W14.cx d_method_4_72 (by decide) (q := 85) rfl (fun hh => (by first | exact absurd (by decide : (2 : Int32) < Int32.ofNat 4) hh | exact absurd hh (by decide : (2 : Int32) < Int32.ofNat 4))) (fun _ => ?_)
    refine Go.aload_n W14.cx d_method_4_75 (v := (.ref t)) rfl rfl ?_
    refine Go.iload_n W14.cx d_method_4_76 (v := (Int32.ofNat off)) rfl ?_
    refine Go.iload_n W14.cx d_method_4_77 (v := (Int32.ofNat ld)) rfl ?_
    refine Go.iadd W14.cx d_method_4_78 ?_
    refine Go.iconst W14.cx d_method_4_79 (z := (2 : Int32)) rfl ?_
    refine Go.iadd W14.cx d_method_4_80 ?_
    refine Go.aload_n W14.cx d_method_4_81 (v := (.ref c0a)) rfl rfl ?_
    refine Go.iconst W14.cx d_method_4_82 (z := (2 : Int32)) rfl ?_
    refine Go.caload W14 2 d_method_4_83 C14 rfl (by simp) (by simp) (v := c2) rfl ?_
    refine Go.castore W14 (off + ld + 2) d_method_4_84 V14 (by simp) (by rw [add_nat]; exact add_nat (off + ld) 2) (by simp only [List.length_set, hPl]; omega) (by simp only [List.length_set, hPl]; decide) (x' := c2) (nar_ch (hpc c2 (by simp))) ?_
    intro T15 h15 W15 K15 V15
    have C15 := C14.keep K15 (fun z => htc (List.mem_singleton.mp z).symm)
    have KK15 : Keep h0 h15 [t] := keep_tr KK14 K15
    refine Go.aload_n W15.cx d_method_4_85 (v := (.ref c0a)) rfl rfl ?_
    refine Go.alen W15 d_method_4_86 C15 ?_
    refine Go.iconst W15.cx d_method_4_87 (z := (3 : Int32)) rfl ?_
    refine Go.icle W15.cx d_method_4_88 (by decide) (q := 101) rfl (fun hh => (by first | exact absurd (by decide : (3 : Int32) < Int32.ofNat 4) hh | exact absurd hh (by decide : (3 : Int32) < Int32.ofNat 4))) (fun _ => ?_)
    refine Go.aload_n W15.cx d_method_4_91 (v := (.ref t)) rfl rfl ?_
    refine Go.iload_n W15.cx d_method_4_92 (v := (Int32.ofNat off)) rfl ?_
    refine Go.iload_n W15.cx d_method_4_93 (v := (Int32.ofNat ld)) rfl ?_
    refine Go.iadd W15.cx d_method_4_94 ?_
    refine Go.iconst W15.cx d_method_4_95 (z := (3 : Int32)) rfl ?_
    refine Go.iadd W15.cx d_method_4_96 ?_
    refine Go.aload_n W15.cx d_method_4_97 (v := (.ref c0a)) rfl rfl ?_
    refine Go.iconst W15.cx d_method_4_98 (z := (3 : Int32)) rfl ?_
    refine Go.caload W15 3 d_method_4_99 C15 rfl (by simp) (by simp) (v := c3) rfl ?_
    refine Go.castore W15 (off + ld + 3) d_method_4_100 V15 (by simp) (by rw [add_nat]; exact add_nat (off + ld) 3) (by simp only [List.length_set, hPl]; omega) (by simp only [List.length_set, hPl]; decide) (x' := c3) (nar_ch (hpc c3 (by simp))) ?_
    intro T16 h16 W16 K16 V16
    have C16 := C15.keep K16 (fun z => htc (List.mem_singleton.mp z).symm)
    have KK16 : Keep h0 h16 [t] := keep_tr KK15 K16
    refine Go.aload_n W16.cx d_method_4_101 (v := (.ref c0a)) rfl rfl ?_
    refine Go.alen W16 d_method_4_102 C16 ?_
    refine Go.iconst W16.cx d_method_4_103 (z := (4 : Int32)) rfl ?_
    refine Go.icle W16.cx d_method_4_104 (by decide) (q := 117) rfl (fun _ => ?_) (fun hh => (by first | exact absurd (by decide : ¬ (4 : Int32) < Int32.ofNat 4) hh | exact absurd hh (by decide : ¬ (4 : Int32) < Int32.ofNat 4)))
    exact Go.vret W16 d_method_4_117 (by decide) (by decide) ⟨rfl, KK16, V16⟩
  · simp only [List.length_cons, List.length_nil] at hld
    refine Go.aload_n W6.cx d_method_4_40 (v := (.ref c0a)) rfl rfl ?_
    refine Go.alen W6 d_method_4_41 C6 ?_
    refine Go.ifle W6.cx d_method_4_42 (by decide) (q := 53) rfl (fun hh => (by first | exact absurd (by decide : (0 : Int32) < Int32.ofNat 5) hh | exact absurd hh (by decide : (0 : Int32) < Int32.ofNat 5))) (fun _ => ?_)
    refine Go.aload_n W6.cx d_method_4_45 (v := (.ref t)) rfl rfl ?_
    refine Go.iload_n W6.cx d_method_4_46 (v := (Int32.ofNat off)) rfl ?_
    refine Go.iload_n W6.cx d_method_4_47 (v := (Int32.ofNat ld)) rfl ?_
    refine Go.iadd W6.cx d_method_4_48 ?_
    refine Go.aload_n W6.cx d_method_4_49 (v := (.ref c0a)) rfl rfl ?_
    refine Go.iconst W6.cx d_method_4_50 (z := (0 : Int32)) rfl ?_
    refine Go.caload W6 0 d_method_4_51 C6 rfl (by simp) (by simp) (v := c0) rfl ?_
    refine Go.castore W6 (off + ld) d_method_4_52 V6 (by simp) (add_nat off ld) (by simp only [List.length_set, hPl]; omega) (by simp only [List.length_set, hPl]; decide) (x' := c0) (nar_ch (hpc c0 (by simp))) ?_
    intro T17 h17 W17 K17 V17
    have C17 := C6.keep K17 (fun z => htc (List.mem_singleton.mp z).symm)
    have KK17 : Keep h0 h17 [t] := keep_tr KK6 K17
    refine Go.aload_n W17.cx d_method_4_53 (v := (.ref c0a)) rfl rfl ?_
    refine Go.alen W17 d_method_4_54 C17 ?_
    refine Go.iconst W17.cx d_method_4_55 (z := (1 : Int32)) rfl ?_
    refine Go.icle W17.cx d_method_4_56 (by decide) (q := 69) rfl (fun hh => (by first | exact absurd (by decide : (1 : Int32) < Int32.ofNat 5) hh | exact absurd hh (by decide : (1 : Int32) < Int32.ofNat 5))) (fun _ => ?_)
    refine Go.aload_n W17.cx d_method_4_59 (v := (.ref t)) rfl rfl ?_
    refine Go.iload_n W17.cx d_method_4_60 (v := (Int32.ofNat off)) rfl ?_
    refine Go.iload_n W17.cx d_method_4_61 (v := (Int32.ofNat ld)) rfl ?_
    refine Go.iadd W17.cx d_method_4_62 ?_
    refine Go.iconst W17.cx d_method_4_63 (z := (1 : Int32)) rfl ?_
    refine Go.iadd W17.cx d_method_4_64 ?_
    refine Go.aload_n W17.cx d_method_4_65 (v := (.ref c0a)) rfl rfl ?_
    refine Go.iconst W17.cx d_method_4_66 (z := (1 : Int32)) rfl ?_
    refine Go.caload W17 1 d_method_4_67 C17 rfl (by simp) (by simp) (v := c1) rfl ?_
    refine Go.castore W17 (off + ld + 1) d_method_4_68 V17 (by simp) (by rw [add_nat]; exact add_nat (off + ld) 1) (by simp only [List.length_set, hPl]; omega) (by simp only [List.length_set, hPl]; decide) (x' := c1) (nar_ch (hpc c1 (by simp))) ?_
    intro T18 h18 W18 K18 V18
    have C18 := C17.keep K18 (fun z => htc (List.mem_singleton.mp z).symm)
    have KK18 : Keep h0 h18 [t] := keep_tr KK17 K18
    refine Go.aload_n W18.cx d_method_4_69 (v := (.ref c0a)) rfl rfl ?_
    refine Go.alen W18 d_method_4_70 C18 ?_
    refine Go.iconst W18.cx d_method_4_71 (z := (2 : Int32)) rfl ?_
    refine Go.icle W18.cx d_method_4_72 (by decide) (q := 85) rfl (fun hh => (by first | exact absurd (by decide : (2 : Int32) < Int32.ofNat 5) hh | exact absurd hh (by decide : (2 : Int32) < Int32.ofNat 5))) (fun _ => ?_)
    refine Go.aload_n W18.cx d_method_4_75 (v := (.ref t)) rfl rfl ?_
    refine Go.iload_n W18.cx d_method_4_76 (v := (Int32.ofNat off)) rfl ?_
    refine Go.iload_n W18.cx d_method_4_77 (v := (Int32.ofNat ld)) rfl ?_
    refine Go.iadd W18.cx d_method_4_78 ?_
    refine Go.iconst W18.cx d_method_4_79 (z := (2 : Int32)) rfl ?_
    refine Go.iadd W18.cx d_method_4_80 ?_
    refine Go.aload_n W18.cx d_method_4_81 (v := (.ref c0a)) rfl rfl ?_
    refine Go.iconst W18.cx d_method_4_82 (z := (2 : Int32)) rfl ?_
    refine Go.caload W18 2 d_method_4_83 C18 rfl (by simp) (by simp) (v := c2) rfl ?_
    refine Go.castore W18 (off + ld + 2) d_method_4_84 V18 (by simp) (by rw [add_nat]; exact add_nat (off + ld) 2) (by simp only [List.length_set, hPl]; omega) (by simp only [List.length_set, hPl]; decide) (x' := c2) (nar_ch (hpc c2 (by simp))) ?_
    intro T19 h19 W19 K19 V19
    have C19 := C18.keep K19 (fun z => htc (List.mem_singleton.mp z).symm)
    have KK19 : Keep h0 h19 [t] := keep_tr KK18 K19
    refine Go.aload_n W19.cx d_method_4_85 (v := (.ref c0a)) rfl rfl ?_
    refine Go.alen W19 d_method_4_86 C19 ?_
    refine Go.iconst W19.cx d_method_4_87 (z := (3 : Int32)) rfl ?_
    refine Go.icle W19.cx d_method_4_88 (by decide) (q := 101) rfl (fun hh => (by first | exact absurd (by decide : (3 : Int32) < Int32.ofNat 5) hh | exact absurd hh (by decide : (3 : Int32) < Int32.ofNat 5))) (fun _ => ?_)
    refine Go.aload_n W19.cx d_method_4_91 (v := (.ref t)) rfl rfl ?_
    refine Go.iload_n W19.cx d_method_4_92 (v := (Int32.ofNat off)) rfl ?_
    refine Go.iload_n W19.cx d_method_4_93 (v := (Int32.ofNat ld)) rfl ?_
    refine Go.iadd W19.cx d_method_4_94 ?_
    refine Go.iconst W19.cx d_method_4_95 (z := (3 : Int32)) rfl ?_
    refine Go.iadd W19.cx d_method_4_96 ?_
    refine Go.aload_n W19.cx d_method_4_97 (v := (.ref c0a)) rfl rfl ?_
    refine Go.iconst W19.cx d_method_4_98 (z := (3 : Int32)) rfl ?_
    refine Go.caload W19 3 d_method_4_99 C19 rfl (by simp) (by simp) (v := c3) rfl ?_
    refine Go.castore W19 (off + ld + 3) d_method_4_100 V19 (by simp) (by rw [add_nat]; exact add_nat (off + ld) 3) (by simp only [List.length_set, hPl]; omega) (by simp only [List.length_set, hPl]; decide) (x' := c3) (nar_ch (hpc c3 (by simp))) ?_
    intro T20 h20 W20 K20 V20
    have C20 := C19.keep K20 (fun z => htc (List.mem_singleton.mp z).symm)
    have KK20 : Keep h0 h20 [t] := keep_tr KK19 K20
    refine Go.aload_n W20.cx d_method_4_101 (v := (.ref c0a)) rfl rfl ?_
    refine Go.alen W20 d_method_4_102 C20 ?_
    refine Go.iconst W20.cx d_method_4_103 (z := (4 : Int32)) rfl ?_
    refine Go.icle W20.cx d_method_4_104 (by decide) (q := 117) rfl (fun hh => (by first | exact absurd (by decide : (4 : Int32) < Int32.ofNat 5) hh | exact absurd hh (by decide : (4 : Int32) < Int32.ofNat 5))) (fun _ => ?_)
    refine Go.aload_n W20.cx d_method_4_107 (v := (.ref t)) rfl rfl ?_
    refine Go.iload_n W20.cx d_method_4_108 (v := (Int32.ofNat off)) rfl ?_
    refine Go.iload_n W20.cx d_method_4_109 (v := (Int32.ofNat ld)) rfl ?_
    refine Go.iadd W20.cx d_method_4_110 ?_
    refine Go.iconst W20.cx d_method_4_111 (z := (4 : Int32)) rfl ?_
    refine Go.iadd W20.cx d_method_4_112 ?_
    refine Go.aload_n W20.cx d_method_4_113 (v := (.ref c0a)) rfl rfl ?_
    refine Go.iconst W20.cx d_method_4_114 (z := (4 : Int32)) rfl ?_
    refine Go.caload W20 4 d_method_4_115 C20 rfl (by simp) (by simp) (v := c4) rfl ?_
    refine Go.castore W20 (off + ld + 4) d_method_4_116 V20 (by simp) (by rw [add_nat]; exact add_nat (off + ld) 4) (by simp only [List.length_set, hPl]; omega) (by simp only [List.length_set, hPl]; decide) (x' := c4) (nar_ch (hpc c4 (by simp))) ?_
    intro T21 h21 W21 K21 V21
    have C21 := C20.keep K21 (fun z => htc (List.mem_singleton.mp z).symm)
    have KK21 : Keep h0 h21 [t] := keep_tr KK20 K21
    exact Go.vret W21 d_method_4_117 (by decide) (by decide) ⟨rfl, KK21, V21⟩
def sgm (w : Int32) (cl : List Int32) (ld : Nat) : List Int32 := List.replicate ld w ++ cl ++ List.replicate (6 - ld - cl.length) w
theorem put_app (A B C : List Int32) (k : Nat) (cl : List Int32) (h : k + cl.length ≤ B.length) : put (A ++ B ++ C) (A.length + k) cl = A ++ put B k cl ++ C := by
  induction cl generalizing B k with
  | nil => rfl
  | cons c r ih =>
    have e : (A ++ B ++ C).set (A.length + k) c = A ++ B.set k c ++ C := by
      rw [List.length_cons] at h
      rw [List.append_assoc, List.set_append, if_neg (by omega), Nat.add_sub_cancel_left, List.set_append, if_pos (by omega), ← List.append_assoc]
    show put ((A ++ B ++ C).set (A.length + k) c) (A.length + k + 1) r = A ++ put (B.set k c) (k + 1) r ++ C
    rw [e]
    exact ih (B.set k c) (k + 1) (by rw [List.length_set]; rw [List.length_cons] at h; omega)
theorem fill6_put (P : List Int32) (off : Nat) (w : Int32) : fill6 P off w = put P off [w, w, w, w, w, w] := rfl
theorem put_len (P : List Int32) (k : Nat) (cl : List Int32) : (put P k cl).length = P.length := by
  induction cl generalizing P k with
  | nil => rfl
  | cons c r ih => show (put (P.set k c) (k + 1) r).length = _; rw [ih, List.length_set]
theorem put6 (B : List Int32) (hB : B.length = 6) (w : Int32) (cl : List Int32) (ld : Nat) (h : ld + cl.length ≤ 6) (hc : cl.length ≤ 5) : put (put B 0 [w, w, w, w, w, w]) ld cl = sgm w cl ld := by
  have e : put B 0 [w, w, w, w, w, w] = [w, w, w, w, w, w] := by
    match B, hB with
    | [a, b, c, d, e, f], _ => rfl
  rw [e]
  rcases l5 hc with rfl | ⟨c0, rfl⟩ | ⟨c0, c1, rfl⟩ | ⟨c0, c1, c2, rfl⟩ | ⟨c0, c1, c2, c3, rfl⟩ | ⟨c0, c1, c2, c3, c4, rfl⟩ <;> simp only [List.length_cons, List.length_nil] at h <;>
    rcases (show ld = 0 ∨ ld = 1 ∨ ld = 2 ∨ ld = 3 ∨ ld = 4 ∨ ld = 5 ∨ ld = 6 by omega) with rfl | rfl | rfl | rfl | rfl | rfl | rfl <;> first | rfl | omega
theorem sgm_len {w : Int32} {cl : List Int32} {ld : Nat} (h : ld + cl.length ≤ 6) : (sgm w cl ld).length = 6 := by
  unfold sgm; simp only [List.length_append, List.length_replicate]; omega
theorem place_app (A B C : List Int32) (hB : B.length = 6) (w : Int32) (cl : List Int32) (ld off : Nat) (ho : off = A.length) (h : ld + cl.length ≤ 6) (hc : cl.length ≤ 5) : put (fill6 (A ++ B ++ C) off w) (off + ld) cl = A ++ sgm w cl ld ++ C := by
  subst ho
  rw [fill6_put]
  have e := put_app A B C 0 [w, w, w, w, w, w] (by simp [hB])
  rw [Nat.add_zero] at e
  rw [e, put_app A _ C ld cl (by rw [put_len, hB]; exact h), put6 B hB w cl ld h hc]
theorem text_eq (w sp : Int32) {ca cb cc : List Int32} {la lb lc : Nat} (ha : la + ca.length ≤ 6) (hb : lb + cb.length ≤ 6) (hc : lc + cc.length ≤ 6) (ha5 : ca.length ≤ 5) (hb5 : cb.length ≤ 5) (hc5 : cc.length ≤ 5) :
    put (fill6 ((put (fill6 ((put (fill6 (List.replicate 20 0) 0 w) (0 + la) ca).set 6 sp) 7 w) (7 + lb) cb).set 13 sp) 14 w) (14 + lc) cc = sgm w ca la ++ (sp :: (sgm w cb lb ++ (sp :: sgm w cc lc))) := by
  have e1 := place_app [] (List.replicate 6 0) (List.replicate 14 0) rfl w ca la 0 rfl ha ha5
  rw [show ([] : List Int32) ++ List.replicate 6 0 ++ List.replicate 14 0 = List.replicate 20 0 from rfl] at e1
  rw [e1]
  have e2 : ([] ++ sgm w ca la ++ List.replicate 14 0).set 6 sp = (sgm w ca la ++ [sp]) ++ List.replicate 6 0 ++ List.replicate 7 0 := by
    rw [List.nil_append, List.set_append, if_neg (by rw [sgm_len ha]; omega), sgm_len ha]
    simp [List.replicate]
  rw [e2, place_app (sgm w ca la ++ [sp]) (List.replicate 6 0) (List.replicate 7 0) rfl w cb lb 7 (by rw [List.length_append, sgm_len ha]; rfl) hb hb5]
  have e3 : (sgm w ca la ++ [sp] ++ sgm w cb lb ++ List.replicate 7 0).set 13 sp = (sgm w ca la ++ [sp] ++ sgm w cb lb ++ [sp]) ++ List.replicate 6 0 ++ [] := by
    rw [List.set_append, if_neg (by simp only [List.length_append, sgm_len ha, sgm_len hb, List.length_cons, List.length_nil]; omega)]
    simp only [List.length_append, sgm_len ha, sgm_len hb, List.length_cons, List.length_nil]
    simp [List.replicate]
  rw [e3, place_app (sgm w ca la ++ [sp] ++ sgm w cb lb ++ [sp]) (List.replicate 6 0) [] rfl w cc lc 14 (by simp only [List.length_append, sgm_len ha, sgm_len hb, List.length_cons, List.length_nil]) hc hc5]
  simp
theorem ws_ne {w : Int32} (h : wsP w) : ¬ w = 34 ∧ ¬ w = 92 ∧ ¬ (32 : Int32) < w ∧ (¬ w < 0 ∧ ¬ (255 : Int32) < w) := by
  have h1 : ¬ (32 : Int32) < w := by
    rcases h with ⟨-, b⟩ | ⟨-, b⟩
    · intro q; rw [Int32.lt_iff_toInt_lt] at b q; have e1 : (13 : Int32).toInt = 13 := rfl; have e2 : (32 : Int32).toInt = 32 := rfl; omega
    · exact b
  have h2 : ¬ w < 0 := by
    intro q
    rw [Int32.lt_iff_toInt_lt] at q
    have e0 : (0 : Int32).toInt = 0 := rfl
    rcases h with ⟨b, -⟩ | ⟨b, -⟩ <;> rw [Int32.lt_iff_toInt_lt] at b
    · have e1 : (9 : Int32).toInt = 9 := rfl; omega
    · have e1 : (28 : Int32).toInt = 28 := rfl; omega
  refine ⟨fun z => ?_, fun z => ?_, h1, h2, fun q => ?_⟩
  · subst z; exact h1 (by decide)
  · subst z; exact h1 (by decide)
  · rw [Int32.lt_iff_toInt_lt] at h1 q
    have e1 : (255 : Int32).toInt = 255 := rfl; have e2 : (32 : Int32).toInt = 32 := rfl; omega
theorem big_nws {x : Int32} (h : (32 : Int32) < x) : ¬ wsP x := fun q => (ws_ne q).2.2.1 h
theorem stp_ws {w : Int32} (h1 : ¬ w = 34) (h2 : ¬ w = 92) (s : Bool × Bool) : stp s w = (s.1, false) := by
  unfold stp; split
  · rfl
  · simp [h1, h2]
theorem run_ws {w : Int32} (h1 : ¬ w = 34) (h2 : ¬ w = 92) (n : Nat) : runA (false, false) (List.replicate n w) = (false, false) := by
  induction n with
  | zero => rfl
  | succ n ih => rw [List.replicate_succ]; show runA (stp (false, false) w) _ = _; rw [stp_ws h1 h2]; exact ih
theorem noev_ws {w sp : Int32} (h : ¬ w = sp) (s : Bool × Bool) (n : Nat) : noev sp s (List.replicate n w) := by
  induction n generalizing s with
  | zero => trivial
  | succ n ih => rw [List.replicate_succ]; exact ⟨fun q => h q.2, ih _⟩
theorem core_run {x sp : Int32} (hx : ¬ x = 34) (hs : ¬ sp = 34) (hs2 : ¬ sp = 92) {k : Nat} (hk : k < 6) : runA (false, false) (coreL k x sp) = (false, false) := by
  rcases (show k = 0 ∨ k = 1 ∨ k = 2 ∨ k = 3 ∨ k = 4 ∨ k = 5 by omega) with rfl | rfl | rfl | rfl | rfl | rfl <;> simp [coreL, runA, stp, hx, hs, hs2]
theorem core_noev {x sp : Int32} (hx : ¬ x = 34) (hxs : ¬ x = sp) (hs : ¬ sp = 34) (hs2 : ¬ sp = 92) {k : Nat} (hk : k < 8) : noev sp (false, false) (coreL k x sp) := by
  have e1 : ¬ (34 : Int32) = sp := fun z => hs z.symm
  have e2 : ¬ (92 : Int32) = sp := fun z => hs2 z.symm
  by_cases hx2 : x = 92
  · subst hx2
    rcases (show k = 0 ∨ k = 1 ∨ k = 2 ∨ k = 3 ∨ k = 4 ∨ k = 5 ∨ k = 6 ∨ k = 7 by omega) with rfl | rfl | rfl | rfl | rfl | rfl | rfl | rfl <;> simp [coreL, noev, stp, hs, hs2, e1, e2]
  · rcases (show k = 0 ∨ k = 1 ∨ k = 2 ∨ k = 3 ∨ k = 4 ∨ k = 5 ∨ k = 6 ∨ k = 7 by omega) with rfl | rfl | rfl | rfl | rfl | rfl | rfl | rfl <;> simp [coreL, noev, stp, hx, hx2, hxs, hs, hs2, e1, e2]
theorem sgm_run {w x sp : Int32} (hw : wsP w) (hx : ¬ x = 34) (hs : ¬ sp = 34) (hs2 : ¬ sp = 92) {k ld : Nat} (hk : k < 6) : runA (false, false) (sgm w (coreL k x sp) ld) = (false, false) := by
  unfold sgm
  rw [runA_app, runA_app, run_ws (ws_ne hw).1 (ws_ne hw).2.1, core_run hx hs hs2 hk, run_ws (ws_ne hw).1 (ws_ne hw).2.1]
theorem sgm_noev {w x sp : Int32} (hw : wsP w) (hx : ¬ x = 34) (hxs : ¬ x = sp) (hs : ¬ sp = 34) (hs2 : ¬ sp = 92) (hs3 : (32 : Int32) < sp) {k ld : Nat} (hk : k < 8) : noev sp (false, false) (sgm w (coreL k x sp) ld) := by
  have hws : ¬ w = sp := fun z => (ws_ne hw).2.2.1 (z ▸ hs3)
  unfold sgm
  refine noev_app (noev_app (noev_ws hws _ _) ?_) (noev_ws hws _ _)
  rw [run_ws (ws_ne hw).1 (ws_ne hw).2.1]
  exact core_noev hx hxs hs hs2 hk
theorem core_len {k : Nat} {x sp : Int32} : (coreL k x sp).length ≤ 5 := by unfold coreL; split <;> exact Nat.le_of_ble_eq_true rfl
theorem core_ch {k : Nat} {x sp : Int32} (hx : ¬ x < 0 ∧ ¬ (255 : Int32) < x) (hy : ¬ sp < 0 ∧ ¬ (255 : Int32) < sp) : ∀ c ∈ coreL k x sp, ¬ c < 0 ∧ ¬ (255 : Int32) < c := by
  have h34 : ¬ (34 : Int32) < 0 ∧ ¬ (255 : Int32) < 34 := by decide
  have h92 : ¬ (92 : Int32) < 0 ∧ ¬ (255 : Int32) < 92 := by decide
  unfold coreL
  split
  · exact all_nil
  · exact all_cons hx (all_nil)
  · exact all_cons h34 (all_cons hy (all_cons h34 (all_nil)))
  · exact all_cons h34 (all_cons h92 (all_cons h34 (all_cons hy (all_cons h34 (all_nil)))))
  · exact all_cons h34 (all_cons h92 (all_cons h92 (all_cons h34 (all_nil))))
  · exact all_cons hx (all_cons h34 (all_cons hy (all_cons h34 (all_cons hx (all_nil)))))
  · exact all_cons h34 (all_cons hy (all_cons hx (all_cons hy (all_nil))))
  · exact all_cons h34 (all_cons h92 (all_cons h34 (all_cons hy (all_nil))))
/-- the ends of a core are no white space -/
theorem core_ends {k : Nat} {x sp : Int32} (hx : (32 : Int32) < x) (hs : (32 : Int32) < sp) : coreL k x sp = [] ∨ (¬ wsP ((coreL k x sp).getD 0 0) ∧ ¬ wsP ((coreL k x sp).getD ((coreL k x sp).length - 1) 0) ∧ 0 < (coreL k x sp).length) := by
  have a := big_nws hx
  have b := big_nws hs
  have q : ¬ wsP (34 : Int32) := by decide
  unfold coreL
  split
  · exact Or.inl rfl
  · exact Or.inr ⟨a, a, Nat.zero_lt_succ _⟩
  · exact Or.inr ⟨q, q, Nat.zero_lt_succ _⟩
  · exact Or.inr ⟨q, q, Nat.zero_lt_succ _⟩
  · exact Or.inr ⟨q, q, Nat.zero_lt_succ _⟩
  · exact Or.inr ⟨a, a, Nat.zero_lt_succ _⟩
  · exact Or.inr ⟨q, b, Nat.zero_lt_succ _⟩
  · exact Or.inr ⟨q, b, Nat.zero_lt_succ _⟩
theorem sgm_getD {w : Int32} {cl : List Int32} {ld t : Nat} : (sgm w cl ld).getD t 0 = if t < ld then w else if t < ld + cl.length then cl.getD (t - ld) 0 else if t < ld + cl.length + (6 - ld - cl.length) then w else 0 := by
  unfold sgm
  simp only [List.getD_eq_getElem?_getD]
  by_cases h1 : t < ld
  · rw [if_pos h1, List.append_assoc, List.getElem?_append_left (by rw [List.length_replicate]; exact h1), List.getElem?_replicate, if_pos h1]; rfl
  · rw [if_neg h1]
    by_cases h2 : t < ld + cl.length
    · rw [if_pos h2, List.getElem?_append_left (by rw [List.length_append, List.length_replicate]; exact h2), List.getElem?_append_right (by rw [List.length_replicate]; omega), List.length_replicate]
    · rw [if_neg h2, List.getElem?_append_right (by rw [List.length_append, List.length_replicate]; omega), List.length_append, List.length_replicate, List.getElem?_replicate]
      by_cases h3 : t < ld + cl.length + (6 - ld - cl.length)
      · rw [if_pos h3, if_pos (by omega)]; rfl
      · rw [if_neg h3, if_neg (by omega)]; rfl
theorem strp_eq {w : Int32} {cl p : List Int32} {ld : Nat} (hw : wsP w) (h : ld + cl.length ≤ 6) (hc : cl = [] ∨ (¬ wsP (cl.getD 0 0) ∧ ¬ wsP (cl.getD (cl.length - 1) 0) ∧ 0 < cl.length)) (S : Strp (sgm w cl ld) p) : p = cl := by
  obtain ⟨i, j, ⟨s1, s2, s3⟩, rfl⟩ := S
  rw [sgm_len h] at s2 s3
  rcases hc with rfl | ⟨c1, c2, c3⟩
  · have hall : ∀ t, t < 6 → wsP ((sgm w [] ld).getD t 0) := fun t ht => by
      rw [sgm_getD, List.length_nil]
      split
      · exact hw
      · rw [if_neg (by omega), if_pos (by simp at h; omega)]; exact hw
    rcases s3 with ⟨-, e⟩ | ⟨u1, u2, u3, -⟩
    · rw [e, Nat.sub_self, List.take_zero]
    · exact absurd (hall i (by omega)) u3
  · have gl : ∀ t, t < ld → wsP ((sgm w cl ld).getD t 0) := fun t ht => by rw [sgm_getD, if_pos ht]; exact hw
    have gr : ∀ t, ld + cl.length ≤ t → t < 6 → wsP ((sgm w cl ld).getD t 0) := fun t h1 h2 => by rw [sgm_getD, if_neg (by omega), if_neg (by omega), if_pos (by omega)]; exact hw
    have g0 : ¬ wsP ((sgm w cl ld).getD ld 0) := by rw [sgm_getD, if_neg (by omega), if_pos (by omega), Nat.sub_self]; exact c1
    have g1 : ¬ wsP ((sgm w cl ld).getD (ld + cl.length - 1) 0) := by rw [sgm_getD, if_neg (by omega), if_pos (by omega), show ld + cl.length - 1 - ld = cl.length - 1 by omega]; exact c2
    rcases s3 with ⟨e, -⟩ | ⟨u1, u2, u3, u4⟩
    · exact absurd (s1 ld (by omega)) g0
    · have hi : i = ld := by
        rcases Nat.lt_trichotomy i ld with z | z | z
        · exact absurd (gl i z) u3
        · exact z
        · exact absurd (s1 ld z) g0
      have hj : j = ld + cl.length := by
        rcases Nat.lt_trichotomy j (ld + cl.length) with z | z | z
        · exact absurd (s2 (ld + cl.length - 1) (by omega) (by omega)) g1
        · exact z
        · exact absurd (gr (j - 1) (by omega) (by omega)) u4
      subst hi hj
      unfold sgm
      rw [List.append_assoc, List.drop_left' (List.length_replicate), Nat.add_sub_cancel_left, List.take_left' rfl]
theorem mk5 {Z : State} {a0 : Array Value} {n0 : Nat} {p : Program} {l : Launch} {e : Env} {R : Room} {s : State} {args : Array Value} {below : List Frame} {h : Heap} {xs : List Addr} {wt : Nat} (hE : EW Z a0 EL0) (hw : ∀ d ∈ tables_1, d.before a0 Z = true) (hG : Gl Z) {x b : Addr} {ka : ClassId} {cs : List Int32} (N : NewS Z h x) (A : CArr Z h b ka cs) (hm : n0 ≤ x ∧ x < h.size) (hx : x ∈ xs) (hp : ∀ c ∈ cs, ¬ c < 0 ∧ ¬ (255 : Int32) < c) (l2 : cs.length ≤ 5) (hO : Old Z n0 h) (hfr : 5 ≤ R.frames) (hlo : wt + 80 ≤ R.locals) :
    Call NW EL0 n0 Z xs l R p e below s args (⟨"java/lang/String", "<init>", "([C)V"⟩ : MethodName) 3 wt #[.ref x, .ref b] h 4 8 (RN fun h' => Keep h h' [x] ∧ Str Z h' x cs) := by
  by_cases h0 : cs.length = 0
  · obtain rfl := List.length_eq_zero_iff.mp h0
    exact Ctr.call (wt := wt) (c_s3 l Z a0 hw hE hO hm.1 N A) hE (wd hw 17 rfl) (wd hw 14 rfl) (by simp [hx]) (by show 2 + 1 ≤ _; omega) (by show wt + (2 + 11) + 34 ≤ _; omega)
  · exact Call.mono (newStr hE hw hG N A hm hx hp (by omega) (by omega) (by omega) (by omega)) (by omega) (by omega)
theorem mk20 {Z : State} {a0 : Array Value} {n0 : Nat} {p : Program} {l : Launch} {e : Env} {R : Room} {s : State} {args : Array Value} {below : List Frame} {h : Heap} {xs : List Addr} {wt : Nat} (hE : EW Z a0 EL0) (hw : ∀ d ∈ tables_1, d.before a0 Z = true) (hG : Gl Z) {x b : Addr} {ka : ClassId} {cs : List Int32} (N : NewS Z h x) (A : CArr Z h b ka cs) (hm : n0 ≤ x ∧ x < h.size) (hx : x ∈ xs) (hp : ∀ c ∈ cs, ¬ c < 0 ∧ ¬ (255 : Int32) < c) (l2 : cs.length = 20) (hfr : 5 ≤ R.frames) (hlo : wt + 80 ≤ R.locals) :
    Call NW EL0 n0 Z xs l R p e below s args (⟨"java/lang/String", "<init>", "([C)V"⟩ : MethodName) 3 wt #[.ref x, .ref b] h 1 20 (RN fun h' => Keep h h' [x] ∧ Str Z h' x cs) :=
  Call.mono (newStr hE hw hG N A hm hx hp (by omega) (by omega) (by omega) (by omega)) (by omega) (by omega)
theorem txt_ch {w sp : Int32} {ca cb cc : List Int32} {la lb lc : Nat} (hw : ¬ w < 0 ∧ ¬ (255 : Int32) < w) (hs : ¬ sp < 0 ∧ ¬ (255 : Int32) < sp) (ha : ∀ c ∈ ca, ¬ c < 0 ∧ ¬ (255 : Int32) < c) (hb : ∀ c ∈ cb, ¬ c < 0 ∧ ¬ (255 : Int32) < c) (hc : ∀ c ∈ cc, ¬ c < 0 ∧ ¬ (255 : Int32) < c) : ∀ c ∈ sgm w ca la ++ (sp :: (sgm w cb lb ++ (sp :: sgm w cc lc))), ¬ c < 0 ∧ ¬ (255 : Int32) < c := by
  have g : ∀ (cl : List Int32) (ld : Nat), (∀ c ∈ cl, ¬ c < 0 ∧ ¬ (255 : Int32) < c) → ∀ c ∈ sgm w cl ld, ¬ c < 0 ∧ ¬ (255 : Int32) < c := fun cl ld h c q => by
    unfold sgm at q
    rcases List.mem_append.mp q with q | q
    · rcases List.mem_append.mp q with q | q
      · rw [List.eq_of_mem_replicate q]; exact hw
      · exact h c q
    · rw [List.eq_of_mem_replicate q]; exact hw
  intro c q
  rcases List.mem_append.mp q with q | q
  · exact g _ _ ha c q
  rcases List.mem_cons.mp q with rfl | q
  · exact hs
  rcases List.mem_append.mp q with q | q
  · exact g _ _ hb c q
  rcases List.mem_cons.mp q with rfl | q
  · exact hs
  · exact g _ _ hc c q
theorem txt_facts {A B C tx : List Int32} {sp : Int32} (ht : tx = A ++ (sp :: (B ++ (sp :: C)))) (la : A.length = 6) (lb : B.length = 6) (lc : C.length = 6) (ra : runA (false, false) A = (false, false)) (rb : runA (false, false) B = (false, false)) (na : noev sp (false, false) A) (nb : noev sp (false, false) B) (nc : noev sp (false, false) C) (hs34 : ¬ sp = 34) :
    trj tx 6 = (false, false) ∧ tx.getD 6 0 = sp ∧ trj tx 13 = (false, false) ∧ tx.getD 13 0 = sp ∧ (∀ t, t < 6 → ¬ Evt tx sp t) ∧ (∀ t, 7 ≤ t → t < 13 → ¬ Evt tx sp t) ∧ (∀ t, 14 ≤ t → t < 20 → ¬ Evt tx sp t) ∧ (tx.drop 0).take 6 = A ∧ (tx.drop 7).take 6 = B ∧ (tx.drop 14).take 6 = C := by
  have d0 : tx.drop 0 = A ++ (sp :: (B ++ (sp :: C))) := by rw [List.drop_zero]; exact ht
  have d6 : tx.drop 6 = sp :: (B ++ (sp :: C)) := by rw [ht]; exact List.drop_left' la
  have d7 : tx.drop 7 = B ++ (sp :: C) := drop_succ0 d6
  have d13 : tx.drop 13 = sp :: C := by rw [show (13 : Nat) = 7 + 6 from rfl, ← List.drop_drop, d7]; exact List.drop_left' lb
  have d14 : tx.drop 14 = C ++ [] := by rw [List.append_nil]; exact drop_succ0 d13
  have sst : stp (false, false) sp = (false, false) := by simp [stp, hs34]
  have t6 : trj tx 6 = (false, false) := by have := trj_run A _ 0 d0; rw [la] at this; exact this.trans ra
  have c6 := getD_drop0 d6
  have t7 : trj tx 7 = (false, false) := by show stp (trj tx 6) (tx.getD 6 0) = _; rw [t6, c6, sst]
  have t13 : trj tx 13 = (false, false) := by have := trj_run B _ 7 d7; rw [lb, t7] at this; exact this.trans rb
  have c13 := getD_drop0 d13
  have t14 : trj tx 14 = (false, false) := by show stp (trj tx 13) (tx.getD 13 0) = _; rw [t13, c13, sst]
  refine ⟨t6, c6, t13, c13, fun t h => ?_, fun t h1 h2 => ?_, fun t h1 h2 => ?_, ?_, ?_, ?_⟩
  · exact noev_evt A _ 0 d0 na t (Nat.zero_le _) (by rw [la]; omega)
  · exact noev_evt B _ 7 d7 (by rw [t7]; exact nb) t h1 (by rw [lb]; omega)
  · exact noev_evt C _ 14 d14 (by rw [t14]; exact nc) t h1 (by rw [lc]; omega)
  · rw [d0]; exact List.take_left' la
  · rw [d7]; exact List.take_left' lb
  · rw [d14]; exact List.take_left' lc
theorem d_code_0 : Dec code 0 (.iload_n 0) 1 1 := ⟨by decide +kernel, rfl⟩
theorem d_code_1 : Dec code 1 (.sipush 255) 3 4 := ⟨by decide +kernel, rfl⟩
theorem d_code_4 : Dec code 4 (.iand) 1 5 := ⟨by decide +kernel, rfl⟩
theorem d_code_5 : Dec code 5 (.i2c) 1 6 := ⟨by decide +kernel, rfl⟩
theorem d_code_6 : Dec code 6 (.istore 6) 2 8 := ⟨by decide +kernel, rfl⟩
theorem d_code_33 : Dec code 33 (.iload_n 1) 1 34 := ⟨by decide +kernel, rfl⟩
theorem d_code_34 : Dec code 34 (.sipush 255) 3 37 := ⟨by decide +kernel, rfl⟩
theorem d_code_37 : Dec code 37 (.iand) 1 38 := ⟨by decide +kernel, rfl⟩
theorem d_code_38 : Dec code 38 (.i2c) 1 39 := ⟨by decide +kernel, rfl⟩
theorem d_code_39 : Dec code 39 (.istore 7) 2 41 := ⟨by decide +kernel, rfl⟩
theorem d_code_82 : Dec code 82 (.iload 5) 2 84 := ⟨by decide +kernel, rfl⟩
theorem d_code_84 : Dec code 84 (.bipush 7) 2 86 := ⟨by decide +kernel, rfl⟩
theorem d_code_86 : Dec code 86 (.iand) 1 87 := ⟨by decide +kernel, rfl⟩
theorem d_code_87 : Dec code 87 (.invokestatic 7) 3 90 := ⟨by decide +kernel, rfl⟩
theorem d_code_90 : Dec code 90 (.istore 8) 2 92 := ⟨by decide +kernel, rfl⟩
theorem d_code_92 : Dec code 92 (.iload_n 2) 1 93 := ⟨by decide +kernel, rfl⟩
theorem d_code_93 : Dec code 93 (.ldc 13) 2 95 := ⟨by decide +kernel, rfl⟩
theorem d_code_95 : Dec code 95 (.iand) 1 96 := ⟨by decide +kernel, rfl⟩
theorem d_code_96 : Dec code 96 (.bipush 6) 2 98 := ⟨by decide +kernel, rfl⟩
theorem d_code_98 : Dec code 98 (.irem) 1 99 := ⟨by decide +kernel, rfl⟩
theorem d_code_99 : Dec code 99 (.iload 7) 2 101 := ⟨by decide +kernel, rfl⟩
theorem d_code_101 : Dec code 101 (.iload 6) 2 103 := ⟨by decide +kernel, rfl⟩
theorem d_code_103 : Dec code 103 (.invokestatic 14) 3 106 := ⟨by decide +kernel, rfl⟩
theorem pd_26 : parseMethodDescriptor "(ICC)[C" = some ⟨[.int, .char, .char], some (.array .char)⟩ := by decide +kernel
theorem d_code_106 : Dec code 106 (.astore 9) 2 108 := ⟨by decide +kernel, rfl⟩
theorem d_code_108 : Dec code 108 (.iload_n 3) 1 109 := ⟨by decide +kernel, rfl⟩
theorem d_code_109 : Dec code 109 (.ldc 13) 2 111 := ⟨by decide +kernel, rfl⟩
theorem d_code_111 : Dec code 111 (.iand) 1 112 := ⟨by decide +kernel, rfl⟩
theorem d_code_112 : Dec code 112 (.bipush 6) 2 114 := ⟨by decide +kernel, rfl⟩
theorem d_code_114 : Dec code 114 (.irem) 1 115 := ⟨by decide +kernel, rfl⟩
theorem d_code_115 : Dec code 115 (.iload 7) 2 117 := ⟨by decide +kernel, rfl⟩
theorem d_code_117 : Dec code 117 (.iload 6) 2 119 := ⟨by decide +kernel, rfl⟩
theorem d_code_119 : Dec code 119 (.invokestatic 14) 3 122 := ⟨by decide +kernel, rfl⟩
theorem d_code_122 : Dec code 122 (.astore 10) 2 124 := ⟨by decide +kernel, rfl⟩
theorem d_code_124 : Dec code 124 (.iload 4) 2 126 := ⟨by decide +kernel, rfl⟩
theorem d_code_126 : Dec code 126 (.ldc 13) 2 128 := ⟨by decide +kernel, rfl⟩
theorem d_code_128 : Dec code 128 (.iand) 1 129 := ⟨by decide +kernel, rfl⟩
theorem d_code_129 : Dec code 129 (.bipush 8) 2 131 := ⟨by decide +kernel, rfl⟩
theorem d_code_131 : Dec code 131 (.irem) 1 132 := ⟨by decide +kernel, rfl⟩
theorem d_code_132 : Dec code 132 (.iload 7) 2 134 := ⟨by decide +kernel, rfl⟩
theorem d_code_134 : Dec code 134 (.iload 6) 2 136 := ⟨by decide +kernel, rfl⟩
theorem d_code_136 : Dec code 136 (.invokestatic 14) 3 139 := ⟨by decide +kernel, rfl⟩
theorem d_code_139 : Dec code 139 (.astore 11) 2 141 := ⟨by decide +kernel, rfl⟩
theorem d_code_141 : Dec code 141 (.bipush 20) 2 143 := ⟨by decide +kernel, rfl⟩
theorem d_code_143 : Dec code 143 (.newarray .char) 2 145 := ⟨by decide +kernel, rfl⟩
theorem d_code_145 : Dec code 145 (.astore 12) 2 147 := ⟨by decide +kernel, rfl⟩
theorem d_code_147 : Dec code 147 (.aload 12) 2 149 := ⟨by decide +kernel, rfl⟩
theorem d_code_149 : Dec code 149 (.iconst 0) 1 150 := ⟨by decide +kernel, rfl⟩
theorem d_code_150 : Dec code 150 (.aload 9) 2 152 := ⟨by decide +kernel, rfl⟩
theorem d_code_152 : Dec code 152 (.iload 5) 2 154 := ⟨by decide +kernel, rfl⟩
theorem d_code_154 : Dec code 154 (.iconst 3) 1 155 := ⟨by decide +kernel, rfl⟩
theorem d_code_155 : Dec code 155 (.iushr) 1 156 := ⟨by decide +kernel, rfl⟩
theorem d_code_156 : Dec code 156 (.bipush 7) 2 158 := ⟨by decide +kernel, rfl⟩
theorem d_code_158 : Dec code 158 (.iand) 1 159 := ⟨by decide +kernel, rfl⟩
theorem d_code_159 : Dec code 159 (.bipush 7) 2 161 := ⟨by decide +kernel, rfl⟩
theorem d_code_161 : Dec code 161 (.aload 9) 2 163 := ⟨by decide +kernel, rfl⟩
theorem d_code_163 : Dec code 163 (.arraylength) 1 164 := ⟨by decide +kernel, rfl⟩
theorem d_code_164 : Dec code 164 (.isub) 1 165 := ⟨by decide +kernel, rfl⟩
theorem d_code_165 : Dec code 165 (.irem) 1 166 := ⟨by decide +kernel, rfl⟩
theorem d_code_166 : Dec code 166 (.iload 8) 2 168 := ⟨by decide +kernel, rfl⟩
theorem d_code_168 : Dec code 168 (.invokestatic 18) 3 171 := ⟨by decide +kernel, rfl⟩
theorem pd_27 : parseMethodDescriptor "([CI[CIC)V" = some ⟨[(.array .char), .int, (.array .char), .int, .char], none⟩ := by decide +kernel
theorem d_code_171 : Dec code 171 (.aload 12) 2 173 := ⟨by decide +kernel, rfl⟩
theorem d_code_173 : Dec code 173 (.bipush 6) 2 175 := ⟨by decide +kernel, rfl⟩
theorem d_code_175 : Dec code 175 (.iload 6) 2 177 := ⟨by decide +kernel, rfl⟩
theorem d_code_177 : Dec code 177 (.castore) 1 178 := ⟨by decide +kernel, rfl⟩
theorem d_code_178 : Dec code 178 (.aload 12) 2 180 := ⟨by decide +kernel, rfl⟩
theorem d_code_180 : Dec code 180 (.bipush 7) 2 182 := ⟨by decide +kernel, rfl⟩
theorem d_code_182 : Dec code 182 (.aload 10) 2 184 := ⟨by decide +kernel, rfl⟩
theorem d_code_184 : Dec code 184 (.iload 5) 2 186 := ⟨by decide +kernel, rfl⟩
theorem d_code_186 : Dec code 186 (.bipush 6) 2 188 := ⟨by decide +kernel, rfl⟩
theorem d_code_188 : Dec code 188 (.iushr) 1 189 := ⟨by decide +kernel, rfl⟩
theorem d_code_189 : Dec code 189 (.bipush 7) 2 191 := ⟨by decide +kernel, rfl⟩
theorem d_code_191 : Dec code 191 (.iand) 1 192 := ⟨by decide +kernel, rfl⟩
theorem d_code_192 : Dec code 192 (.bipush 7) 2 194 := ⟨by decide +kernel, rfl⟩
theorem d_code_194 : Dec code 194 (.aload 10) 2 196 := ⟨by decide +kernel, rfl⟩
theorem d_code_196 : Dec code 196 (.arraylength) 1 197 := ⟨by decide +kernel, rfl⟩
theorem d_code_197 : Dec code 197 (.isub) 1 198 := ⟨by decide +kernel, rfl⟩
theorem d_code_198 : Dec code 198 (.irem) 1 199 := ⟨by decide +kernel, rfl⟩
theorem d_code_199 : Dec code 199 (.iload 8) 2 201 := ⟨by decide +kernel, rfl⟩
theorem d_code_201 : Dec code 201 (.invokestatic 18) 3 204 := ⟨by decide +kernel, rfl⟩
theorem d_code_204 : Dec code 204 (.aload 12) 2 206 := ⟨by decide +kernel, rfl⟩
theorem d_code_206 : Dec code 206 (.bipush 13) 2 208 := ⟨by decide +kernel, rfl⟩
theorem d_code_208 : Dec code 208 (.iload 6) 2 210 := ⟨by decide +kernel, rfl⟩
theorem d_code_210 : Dec code 210 (.castore) 1 211 := ⟨by decide +kernel, rfl⟩
theorem d_code_211 : Dec code 211 (.aload 12) 2 213 := ⟨by decide +kernel, rfl⟩
theorem d_code_213 : Dec code 213 (.bipush 14) 2 215 := ⟨by decide +kernel, rfl⟩
theorem d_code_215 : Dec code 215 (.aload 11) 2 217 := ⟨by decide +kernel, rfl⟩
theorem d_code_217 : Dec code 217 (.iload 5) 2 219 := ⟨by decide +kernel, rfl⟩
theorem d_code_219 : Dec code 219 (.bipush 9) 2 221 := ⟨by decide +kernel, rfl⟩
theorem d_code_221 : Dec code 221 (.iushr) 1 222 := ⟨by decide +kernel, rfl⟩
theorem d_code_222 : Dec code 222 (.bipush 7) 2 224 := ⟨by decide +kernel, rfl⟩
theorem d_code_224 : Dec code 224 (.iand) 1 225 := ⟨by decide +kernel, rfl⟩
theorem d_code_225 : Dec code 225 (.bipush 7) 2 227 := ⟨by decide +kernel, rfl⟩
theorem d_code_227 : Dec code 227 (.aload 11) 2 229 := ⟨by decide +kernel, rfl⟩
theorem d_code_229 : Dec code 229 (.arraylength) 1 230 := ⟨by decide +kernel, rfl⟩
theorem d_code_230 : Dec code 230 (.isub) 1 231 := ⟨by decide +kernel, rfl⟩
theorem d_code_231 : Dec code 231 (.irem) 1 232 := ⟨by decide +kernel, rfl⟩
theorem d_code_232 : Dec code 232 (.iload 8) 2 234 := ⟨by decide +kernel, rfl⟩
theorem d_code_234 : Dec code 234 (.invokestatic 18) 3 237 := ⟨by decide +kernel, rfl⟩
theorem d_code_237 : Dec code 237 (.new 22) 3 240 := ⟨by decide +kernel, rfl⟩
theorem d_code_240 : Dec code 240 (.dup) 1 241 := ⟨by decide +kernel, rfl⟩
theorem d_code_241 : Dec code 241 (.aload 12) 2 243 := ⟨by decide +kernel, rfl⟩
theorem d_code_243 : Dec code 243 (.invokespecial 24) 3 246 := ⟨by decide +kernel, rfl⟩
theorem pd_28 : parseMethodDescriptor "([C)V" = some ⟨[(.array .char)], none⟩ := by decide +kernel
theorem d_code_246 : Dec code 246 (.astore 13) 2 248 := ⟨by decide +kernel, rfl⟩
theorem d_code_248 : Dec code 248 (.new 22) 3 251 := ⟨by decide +kernel, rfl⟩
theorem d_code_251 : Dec code 251 (.dup) 1 252 := ⟨by decide +kernel, rfl⟩
theorem d_code_252 : Dec code 252 (.aload 9) 2 254 := ⟨by decide +kernel, rfl⟩
theorem d_code_254 : Dec code 254 (.invokespecial 24) 3 257 := ⟨by decide +kernel, rfl⟩
theorem d_code_257 : Dec code 257 (.astore 14) 2 259 := ⟨by decide +kernel, rfl⟩
theorem d_code_259 : Dec code 259 (.new 22) 3 262 := ⟨by decide +kernel, rfl⟩
theorem d_code_262 : Dec code 262 (.dup) 1 263 := ⟨by decide +kernel, rfl⟩
theorem d_code_263 : Dec code 263 (.aload 10) 2 265 := ⟨by decide +kernel, rfl⟩
theorem d_code_265 : Dec code 265 (.invokespecial 24) 3 268 := ⟨by decide +kernel, rfl⟩
theorem d_code_268 : Dec code 268 (.astore 15) 2 270 := ⟨by decide +kernel, rfl⟩
theorem d_code_270 : Dec code 270 (.new 22) 3 273 := ⟨by decide +kernel, rfl⟩
theorem d_code_273 : Dec code 273 (.dup) 1 274 := ⟨by decide +kernel, rfl⟩
theorem d_code_274 : Dec code 274 (.aload 11) 2 276 := ⟨by decide +kernel, rfl⟩
theorem d_code_276 : Dec code 276 (.invokespecial 24) 3 279 := ⟨by decide +kernel, rfl⟩
theorem d_code_279 : Dec code 279 (.astore 16) 2 281 := ⟨by decide +kernel, rfl⟩
theorem d_code_281 : Dec code 281 (.aload 13) 2 283 := ⟨by decide +kernel, rfl⟩
theorem d_code_283 : Dec code 283 (.iload 6) 2 285 := ⟨by decide +kernel, rfl⟩
theorem d_code_285 : Dec code 285 (.invokestatic 27) 3 288 := ⟨by decide +kernel, rfl⟩
theorem pd_29 : parseMethodDescriptor "(Ljava/lang/String;C)Ljava/util/List;" = some ⟨[(.object "java/lang/String"), .char], some (.object "java/util/List")⟩ := by decide +kernel
theorem d_code_288 : Dec code 288 (.astore 17) 2 290 := ⟨by decide +kernel, rfl⟩
theorem d_code_290 : Dec code 290 (.aload 17) 2 292 := ⟨by decide +kernel, rfl⟩
theorem d_code_292 : Dec code 292 (.invokeinterface 33 1) 5 297 := ⟨by decide +kernel, rfl⟩
theorem d_code_297 : Dec code 297 (.iconst 3) 1 298 := ⟨by decide +kernel, rfl⟩
theorem d_code_298 : Dec code 298 (.if_icmp .ne 64) 3 301 := ⟨by decide +kernel, rfl⟩
theorem d_code_301 : Dec code 301 (.aload 17) 2 303 := ⟨by decide +kernel, rfl⟩
theorem d_code_303 : Dec code 303 (.iconst 0) 1 304 := ⟨by decide +kernel, rfl⟩
theorem d_code_304 : Dec code 304 (.invokeinterface 39 2) 5 309 := ⟨by decide +kernel, rfl⟩
theorem d_code_309 : Dec code 309 (.checkcast 22) 3 312 := ⟨by decide +kernel, rfl⟩
theorem d_code_312 : Dec code 312 (.aload 14) 2 314 := ⟨by decide +kernel, rfl⟩
theorem d_code_314 : Dec code 314 (.invokevirtual 43) 3 317 := ⟨by decide +kernel, rfl⟩
theorem d_code_317 : Dec code 317 (.ifCond .eq 45) 3 320 := ⟨by decide +kernel, rfl⟩
theorem d_code_320 : Dec code 320 (.aload 17) 2 322 := ⟨by decide +kernel, rfl⟩
theorem d_code_322 : Dec code 322 (.iconst 1) 1 323 := ⟨by decide +kernel, rfl⟩
theorem d_code_323 : Dec code 323 (.invokeinterface 39 2) 5 328 := ⟨by decide +kernel, rfl⟩
theorem d_code_328 : Dec code 328 (.checkcast 22) 3 331 := ⟨by decide +kernel, rfl⟩
theorem d_code_331 : Dec code 331 (.aload 15) 2 333 := ⟨by decide +kernel, rfl⟩
theorem d_code_333 : Dec code 333 (.invokevirtual 43) 3 336 := ⟨by decide +kernel, rfl⟩
theorem d_code_336 : Dec code 336 (.ifCond .eq 26) 3 339 := ⟨by decide +kernel, rfl⟩
theorem d_code_339 : Dec code 339 (.aload 17) 2 341 := ⟨by decide +kernel, rfl⟩
theorem d_code_341 : Dec code 341 (.iconst 2) 1 342 := ⟨by decide +kernel, rfl⟩
theorem d_code_342 : Dec code 342 (.invokeinterface 39 2) 5 347 := ⟨by decide +kernel, rfl⟩
theorem d_code_347 : Dec code 347 (.checkcast 22) 3 350 := ⟨by decide +kernel, rfl⟩
theorem d_code_350 : Dec code 350 (.aload 16) 2 352 := ⟨by decide +kernel, rfl⟩
theorem d_code_352 : Dec code 352 (.invokevirtual 43) 3 355 := ⟨by decide +kernel, rfl⟩
theorem d_code_355 : Dec code 355 (.ifCond .eq 7) 3 358 := ⟨by decide +kernel, rfl⟩
theorem d_code_358 : Dec code 358 (.iconst 1) 1 359 := ⟨by decide +kernel, rfl⟩
theorem d_code_359 : Dec code 359 (.goto 4) 3 362 := ⟨by decide +kernel, rfl⟩
theorem d_code_363 : Dec code 363 (.ireturn) 1 364 := ⟨by decide +kernel, rfl⟩
theorem d_code_59 : Dec code 59 (.iload 7) 2 61 := ⟨by decide +kernel, rfl⟩
theorem d_code_61 : Dec code 61 (.iload 6) 2 63 := ⟨by decide +kernel, rfl⟩
theorem d_code_63 : Dec code 63 (.if_icmp .ne 19) 3 66 := ⟨by decide +kernel, rfl⟩
theorem d_code_66 : Dec code 66 (.iload 6) 2 68 := ⟨by decide +kernel, rfl⟩
theorem d_code_68 : Dec code 68 (.bipush 97) 2 70 := ⟨by decide +kernel, rfl⟩
theorem d_code_70 : Dec code 70 (.if_icmp .ne 8) 3 73 := ⟨by decide +kernel, rfl⟩
theorem d_code_78 : Dec code 78 (.bipush 97) 2 80 := ⟨by decide +kernel, rfl⟩
theorem d_code_80 : Dec code 80 (.istore 7) 2 82 := ⟨by decide +kernel, rfl⟩
theorem d_code_73 : Dec code 73 (.bipush 98) 2 75 := ⟨by decide +kernel, rfl⟩
theorem d_code_75 : Dec code 75 (.goto 5) 3 78 := ⟨by decide +kernel, rfl⟩
theorem d_code_41 : Dec code 41 (.iload 7) 2 43 := ⟨by decide +kernel, rfl⟩
theorem d_code_43 : Dec code 43 (.bipush 32) 2 45 := ⟨by decide +kernel, rfl⟩
theorem d_code_45 : Dec code 45 (.if_icmp .le 10) 3 48 := ⟨by decide +kernel, rfl⟩
theorem d_code_55 : Dec code 55 (.bipush 97) 2 57 := ⟨by decide +kernel, rfl⟩
theorem d_code_57 : Dec code 57 (.istore 7) 2 59 := ⟨by decide +kernel, rfl⟩
theorem d_code_48 : Dec code 48 (.iload 7) 2 50 := ⟨by decide +kernel, rfl⟩
theorem d_code_50 : Dec code 50 (.bipush 34) 2 52 := ⟨by decide +kernel, rfl⟩
theorem d_code_52 : Dec code 52 (.if_icmp .ne 7) 3 55 := ⟨by decide +kernel, rfl⟩
theorem d_code_8 : Dec code 8 (.iload 6) 2 10 := ⟨by decide +kernel, rfl⟩
theorem d_code_10 : Dec code 10 (.bipush 32) 2 12 := ⟨by decide +kernel, rfl⟩
theorem d_code_12 : Dec code 12 (.if_icmp .le 17) 3 15 := ⟨by decide +kernel, rfl⟩
theorem d_code_29 : Dec code 29 (.bipush 44) 2 31 := ⟨by decide +kernel, rfl⟩
theorem d_code_31 : Dec code 31 (.istore 6) 2 33 := ⟨by decide +kernel, rfl⟩
theorem d_code_15 : Dec code 15 (.iload 6) 2 17 := ⟨by decide +kernel, rfl⟩
theorem d_code_17 : Dec code 17 (.bipush 34) 2 19 := ⟨by decide +kernel, rfl⟩
theorem d_code_19 : Dec code 19 (.if_icmp .eq 10) 3 22 := ⟨by decide +kernel, rfl⟩
theorem d_code_22 : Dec code 22 (.iload 6) 2 24 := ⟨by decide +kernel, rfl⟩
theorem d_code_24 : Dec code 24 (.bipush 92) 2 26 := ⟨by decide +kernel, rfl⟩
theorem d_code_26 : Dec code 26 (.if_icmp .ne 7) 3 29 := ⟨by decide +kernel, rfl⟩
set_option maxRecDepth 65536 in
set_option maxHeartbeats 40000000 in
theorem c_law (l : Launch) (Z : State) (a0 : Array Value) (hw : ∀ d ∈ tables_1, d.before a0 Z = true) (hE : EW Z a0 EL0) {n0 : Nat} {h0 : Heap} (hO : Old Z n0 h0) (hG : Gl Z) (hL : Lat Z) {D : Addr} (hD : DF Z D) (i0 i1 i2 i3 i4 i5 : Int32) :
    Ctr NW EL0 n0 Z [] l x code maxLocals ret room_1 #[.int i0, .int i1, .int i2, .int i3, .int i4, .int i5] h0 (RV fun w h => w = .int 1) := by
  refine Ctr.body (plainFor_of_name pn_10) hE hO (fun x q => nomatch q) (L0 := #[.val (.int i0), .val (.int i1), .val (.int i2), .val (.int i3), .val (.int i4), .val (.int i5), .unset, .unset, .unset, .unset, .unset, .unset, .unset, .unset, .unset, .unset, .unset, .unset]) (fun m => by first | (simp [entryFrame, mkF, argsToLocals, Value.category, maxLocals]; done) | rfl) ?_
  intro p e s m below meth c T0 W0
  refine Go.iload_n W0.cx d_code_0 (v := i0) rfl ?_
  refine Go.sipush W0.cx d_code_1 (z := (255 : Int32)) rfl ?_
  refine Go.iand W0.cx d_code_4 ?_
  refine Go.i2c W0.cx d_code_5 ?_
  refine Go.top (show _ = (i0 &&& (255 : Int32)) from i2c_mask _) ?_
  refine Go.istore W0.cx d_code_6 (L' := #[.val (.int i0), .val (.int i1), .val (.int i2), .val (.int i3), .val (.int i4), .val (.int i5), .val (.int (i0 &&& (255 : Int32))), .unset, .unset, .unset, .unset, .unset, .unset, .unset, .unset, .unset, .unset, .unset]) rfl ?_
  have J33 : ∀ (sp : Int32), ((32 : Int32) < sp ∧ ¬ sp = 34 ∧ ¬ sp = 92 ∧ (¬ sp < 0 ∧ ¬ (255 : Int32) < sp)) → ∀ (T : State), Wk NW EL0 n0 Z a0 "com/example/wheal/wheal/FieldValuesSplitPinLaw" "law" code maxLocals ret p l e room_1 s m #[.int i0, .int i1, .int i2, .int i3, .int i4, .int i5] below meth c T h0 [] 0 0 → Go p e below (Endp NW EL0 n0 Z below s room_1.cells room_1.slots (RV fun w h => w = .int 1)) T (mkF m 33 #[.val (.int i0), .val (.int i1), .val (.int i2), .val (.int i3), .val (.int i4), .val (.int i5), .val (.int sp), .unset, .unset, .unset, .unset, .unset, .unset, .unset, .unset, .unset, .unset, .unset] []) := by
    intro sp hsp T5330 W5330
    refine Go.iload_n W5330.cx d_code_33 (v := i1) rfl ?_
    refine Go.sipush W5330.cx d_code_34 (z := (255 : Int32)) rfl ?_
    refine Go.iand W5330.cx d_code_37 ?_
    refine Go.i2c W5330.cx d_code_38 ?_
    refine Go.top (show _ = (i1 &&& (255 : Int32)) from i2c_mask _) ?_
    refine Go.istore W5330.cx d_code_39 (L' := #[.val (.int i0), .val (.int i1), .val (.int i2), .val (.int i3), .val (.int i4), .val (.int i5), .val (.int sp), .val (.int (i1 &&& (255 : Int32))), .unset, .unset, .unset, .unset, .unset, .unset, .unset, .unset, .unset, .unset]) rfl ?_
    have J59 : ∀ (x0 : Int32), ((32 : Int32) < x0 ∧ ¬ x0 = 34 ∧ (¬ x0 < 0 ∧ ¬ (255 : Int32) < x0)) → ∀ (T : State), Wk NW EL0 n0 Z a0 "com/example/wheal/wheal/FieldValuesSplitPinLaw" "law" code maxLocals ret p l e room_1 s m #[.int i0, .int i1, .int i2, .int i3, .int i4, .int i5] below meth c T h0 [] 0 0 → Go p e below (Endp NW EL0 n0 Z below s room_1.cells room_1.slots (RV fun w h => w = .int 1)) T (mkF m 59 #[.val (.int i0), .val (.int i1), .val (.int i2), .val (.int i3), .val (.int i4), .val (.int i5), .val (.int sp), .val (.int x0), .unset, .unset, .unset, .unset, .unset, .unset, .unset, .unset, .unset, .unset] []) := by
      intro x0 hx0 T5590 W5590
      have J82 : ∀ (x : Int32), ((32 : Int32) < x ∧ ¬ x = 34 ∧ (¬ x < 0 ∧ ¬ (255 : Int32) < x) ∧ ¬ x = sp) → ∀ (T : State), Wk NW EL0 n0 Z a0 "com/example/wheal/wheal/FieldValuesSplitPinLaw" "law" code maxLocals ret p l e room_1 s m #[.int i0, .int i1, .int i2, .int i3, .int i4, .int i5] below meth c T h0 [] 0 0 → Go p e below (Endp NW EL0 n0 Z below s room_1.cells room_1.slots (RV fun w h => w = .int 1)) T (mkF m 82 #[.val (.int i0), .val (.int i1), .val (.int i2), .val (.int i3), .val (.int i4), .val (.int i5), .val (.int sp), .val (.int x), .unset, .unset, .unset, .unset, .unset, .unset, .unset, .unset, .unset, .unset] []) := by
        intro x hx T5820 W5820
        obtain ⟨hs32, hs34, hs92, hsr⟩ := id hsp
        obtain ⟨⟨hx32, hx34, hxr⟩, hxs⟩ : ((32 : Int32) < x ∧ ¬ x = 34 ∧ (¬ x < 0 ∧ ¬ (255 : Int32) < x)) ∧ ¬ x = sp := ⟨⟨hx.1, hx.2.1, hx.2.2.1⟩, hx.2.2.2⟩
        refine Go.iload W5820.cx d_code_82 (v := i5) rfl ?_
        refine Go.bipush W5820.cx d_code_84 (z := (7 : Int32)) rfl ?_
        refine Go.iand W5820.cx d_code_86 ?_
        refine Go.invs1 W5820 (Ctr.call (wt := 0) (c_wsl l Z a0 hw hE W5820.old (i5 &&& 7)) W5820.ew (wd hw 3 rfl) (wd hw 2 rfl) (by simp) (by decide) (by decide)) d_code_87 (wd hw 0 rfl) (wd hw 1 rfl) (wd hw 2 rfl) (wd hw 3 rfl) (by decide) pd_22 rfl rfl (rest := []) rfl (Nat.le_of_eq rfl) (cells' := 0) (slots' := 0) rfl rfl (by decide) (by decide) ?_
        rintro T5821 h5821 _ W5821 z5821 ⟨w0, rfl, hws, e5821⟩
        subst e5821
        have hw0 := (ws_ne hws).2.2.2
        refine Go.istore W5821.cx d_code_90 (L' := #[.val (.int i0), .val (.int i1), .val (.int i2), .val (.int i3), .val (.int i4), .val (.int i5), .val (.int sp), .val (.int x), .val (.int w0), .unset, .unset, .unset, .unset, .unset, .unset, .unset, .unset, .unset]) rfl ?_
        refine Go.iload_n W5821.cx d_code_92 (v := i2) rfl ?_
        refine Go.ldcI W5821 d_code_93 (wd hw 4 rfl) ?_
        refine Go.iand W5821.cx d_code_95 ?_
        refine Go.bipush W5821.cx d_code_96 (z := (6 : Int32)) rfl ?_
        refine Go.irem W5821.cx d_code_98 (by decide) ?_
        obtain ⟨ka, hka, eka⟩ := mask_rem i2 (q := 6) (y := (6 : Int32)) rfl (by decide) (by decide)
        refine Go.top eka ?_
        refine Go.iload W5821.cx d_code_99 (v := x) rfl ?_
        refine Go.iload W5821.cx d_code_101 (v := sp) rfl ?_
        refine Go.invs1 W5821 (Ctr.call (wt := 0) (c_core l Z a0 hw hE W5821.old hxr hsr (n := ka) (by omega)) W5821.ew (wd hw 7 rfl) (wd hw 2 rfl) (by simp) (by decide) (by decide)) d_code_103 (wd hw 5 rfl) (wd hw 6 rfl) (wd hw 2 rfl) (wd hw 7 rfl) (by decide) pd_26 rfl rfl (rest := []) rfl (Nat.le_of_eq rfl) (cells' := 1) (slots' := 5) rfl rfl (by decide) (by decide) ?_
        rintro T5822 h5822 _ W5822 z5822 ⟨r5822, kr5822, rfl, E5822, l5822, V5822⟩
        have X5822 : Ext h0 h5822 := E5822
        refine Go.astore W5822.cx d_code_106 (L' := #[.val (.int i0), .val (.int i1), .val (.int i2), .val (.int i3), .val (.int i4), .val (.int i5), .val (.int sp), .val (.int x), .val (.int w0), .val (.ref r5822), .unset, .unset, .unset, .unset, .unset, .unset, .unset, .unset]) rfl rfl ?_
        refine Go.iload_n W5822.cx d_code_108 (v := i3) rfl ?_
        refine Go.ldcI W5822 d_code_109 (wd hw 4 rfl) ?_
        refine Go.iand W5822.cx d_code_111 ?_
        refine Go.bipush W5822.cx d_code_112 (z := (6 : Int32)) rfl ?_
        refine Go.irem W5822.cx d_code_114 (by decide) ?_
        obtain ⟨kb, hkb, ekb⟩ := mask_rem i3 (q := 6) (y := (6 : Int32)) rfl (by decide) (by decide)
        refine Go.top ekb ?_
        refine Go.iload W5822.cx d_code_115 (v := x) rfl ?_
        refine Go.iload W5822.cx d_code_117 (v := sp) rfl ?_
        refine Go.invs1 W5822 (Ctr.call (wt := 0) (c_core l Z a0 hw hE W5822.old hxr hsr (n := kb) (by omega)) W5822.ew (wd hw 7 rfl) (wd hw 2 rfl) (by simp) (by decide) (by decide)) d_code_119 (wd hw 5 rfl) (wd hw 6 rfl) (wd hw 2 rfl) (wd hw 7 rfl) (by decide) pd_26 rfl rfl (rest := []) rfl (Nat.le_of_eq rfl) (cells' := 2) (slots' := 10) rfl rfl (by decide) (by decide) ?_
        rintro T5823 h5823 _ W5823 z5823 ⟨r5823, kr5823, rfl, E5823, l5823, V5823⟩
        have V5822_5823 := V5822.ext E5823
        have X5823 : Ext h0 h5823 := ext_trans X5822 E5823
        refine Go.astore W5823.cx d_code_122 (L' := #[.val (.int i0), .val (.int i1), .val (.int i2), .val (.int i3), .val (.int i4), .val (.int i5), .val (.int sp), .val (.int x), .val (.int w0), .val (.ref r5822), .val (.ref r5823), .unset, .unset, .unset, .unset, .unset, .unset, .unset]) rfl rfl ?_
        refine Go.iload W5823.cx d_code_124 (v := i4) rfl ?_
        refine Go.ldcI W5823 d_code_126 (wd hw 4 rfl) ?_
        refine Go.iand W5823.cx d_code_128 ?_
        refine Go.bipush W5823.cx d_code_129 (z := (8 : Int32)) rfl ?_
        refine Go.irem W5823.cx d_code_131 (by decide) ?_
        obtain ⟨kc, hkc, ekc⟩ := mask_rem i4 (q := 8) (y := (8 : Int32)) rfl (by decide) (by decide)
        refine Go.top ekc ?_
        refine Go.iload W5823.cx d_code_132 (v := x) rfl ?_
        refine Go.iload W5823.cx d_code_134 (v := sp) rfl ?_
        refine Go.invs1 W5823 (Ctr.call (wt := 0) (c_core l Z a0 hw hE W5823.old hxr hsr (n := kc) (by omega)) W5823.ew (wd hw 7 rfl) (wd hw 2 rfl) (by simp) (by decide) (by decide)) d_code_136 (wd hw 5 rfl) (wd hw 6 rfl) (wd hw 2 rfl) (wd hw 7 rfl) (by decide) pd_26 rfl rfl (rest := []) rfl (Nat.le_of_eq rfl) (cells' := 3) (slots' := 15) rfl rfl (by decide) (by decide) ?_
        rintro T5824 h5824 _ W5824 z5824 ⟨r5824, kr5824, rfl, E5824, l5824, V5824⟩
        have V5822_5823_5824 := V5822_5823.ext E5824
        have V5823_5824 := V5823.ext E5824
        have X5824 : Ext h0 h5824 := ext_trans X5823 E5824
        obtain ⟨ca, hca⟩ : ∃ z, z = coreL ka x sp := ⟨_, rfl⟩
        rw [← hca] at V5822_5823_5824
        have l5a : ca.length ≤ 5 := by rw [hca]; exact core_len
        have cha := core_ch (k := ka) hxr hsr
        rw [← hca] at cha
        obtain ⟨cb, hcb⟩ : ∃ z, z = coreL kb x sp := ⟨_, rfl⟩
        rw [← hcb] at V5823_5824
        have l5b : cb.length ≤ 5 := by rw [hcb]; exact core_len
        have chb := core_ch (k := kb) hxr hsr
        rw [← hcb] at chb
        obtain ⟨cc, hcc⟩ : ∃ z, z = coreL kc x sp := ⟨_, rfl⟩
        rw [← hcc] at V5824
        have l5c : cc.length ≤ 5 := by rw [hcc]; exact core_len
        have chc := core_ch (k := kc) hxr hsr
        rw [← hcc] at chc
        refine Go.astore W5824.cx d_code_139 (L' := #[.val (.int i0), .val (.int i1), .val (.int i2), .val (.int i3), .val (.int i4), .val (.int i5), .val (.int sp), .val (.int x), .val (.int w0), .val (.ref r5822), .val (.ref r5823), .val (.ref r5824), .unset, .unset, .unset, .unset, .unset, .unset]) rfl rfl ?_
        refine Go.bipush W5824.cx d_code_141 (z := (20 : Int32)) rfl ?_
        refine Go.newarr W5824 d_code_143 (wd hw 8 rfl) (z := (20 : Int32)) (cap := 20) (by decide) (by decide) (by decide) (cells' := 4) (slots' := 35) rfl rfl (by decide) (by decide) ?_
        intro T5825 h5825 a5825 ka5825 g5825 W5825 E5825 A5825
        have V5825 : CArr Z h5825 a5825 ka5825 (List.replicate 20 0) := CArr.of_new A5825 (k := 20) rfl rfl
        have nea : a5825 ≠ r5822 := Ne.symm (ne_new V5822_5823_5824.lt g5825)
        have V5822_5823_5824_5825 := V5822_5823_5824.ext E5825
        have neb : a5825 ≠ r5823 := Ne.symm (ne_new V5823_5824.lt g5825)
        have V5823_5824_5825 := V5823_5824.ext E5825
        have nec : a5825 ≠ r5824 := Ne.symm (ne_new V5824.lt g5825)
        have V5824_5825 := V5824.ext E5825
        have lt5825 : h0.size ≤ a5825 := by rw [g5825]; exact X5824.1
        have X5825 : Ext h0 h5825 := ext_trans X5824 E5825
        have LV5825 : (List.replicate 20 (0 : Int32)).length = 20 := rfl
        refine Go.astore W5825.cx d_code_145 (L' := #[.val (.int i0), .val (.int i1), .val (.int i2), .val (.int i3), .val (.int i4), .val (.int i5), .val (.int sp), .val (.int x), .val (.int w0), .val (.ref r5822), .val (.ref r5823), .val (.ref r5824), .val (.ref a5825), .unset, .unset, .unset, .unset, .unset]) rfl rfl ?_
        refine Go.aload W5825.cx d_code_147 (v := (.ref a5825)) rfl rfl ?_
        refine Go.iconst W5825.cx d_code_149 (z := (0 : Int32)) rfl ?_
        refine Go.aload W5825.cx d_code_150 (v := (.ref r5822)) rfl rfl ?_
        refine Go.iload W5825.cx d_code_152 (v := i5) rfl ?_
        refine Go.iconst W5825.cx d_code_154 (z := (3 : Int32)) rfl ?_
        refine Go.iushr W5825.cx d_code_155 ?_
        refine Go.bipush W5825.cx d_code_156 (z := (7 : Int32)) rfl ?_
        refine Go.iand W5825.cx d_code_158 ?_
        refine Go.bipush W5825.cx d_code_159 (z := (7 : Int32)) rfl ?_
        refine Go.aload W5825.cx d_code_161 (v := (.ref r5822)) rfl rfl ?_
        refine Go.alen W5825 d_code_163 V5822_5823_5824_5825 ?_
        refine Go.isub W5825.cx d_code_164 ?_
        refine Go.top (show (7 : Int32) - Int32.ofNat ca.length = Int32.ofNat (7 - ca.length) from sub_nat (a := 7) (by decide) (by omega)) ?_
        refine Go.irem W5825.cx d_code_165 (fun z => absurd ((eq0_nat (by omega)).mp z) (by omega)) ?_
        obtain ⟨ja, hja, eja⟩ := and_nat ((ush i5 3)) (7 : Int32) (k := 7) rfl (by decide)
        obtain ⟨lda, hlda, ela⟩ : ∃ ld : Nat, ld < 7 - ca.length ∧ (ush i5 3 &&& 7) % Int32.ofNat (7 - ca.length) = Int32.ofNat ld := ⟨_, Nat.mod_lt _ (by omega), rem_nat eja (by omega) (by omega) (by omega)⟩
        refine Go.top ela ?_
        refine Go.iload W5825.cx d_code_166 (v := w0) rfl ?_
        refine Go.invs0 W5825 (Ctr.call (wt := 0) (c_place l Z a0 hw hE W5825.old V5825 V5822_5823_5824_5825 (Nat.le_trans (old_le hO) lt5825) nea LV5825 l5a cha (off := 0) (ld := lda) (by decide) (by omega) hw0) W5825.ew (wd hw 11 rfl) (wd hw 2 rfl) (by simp) (by decide) (by decide)) d_code_168 (wd hw 9 rfl) (wd hw 10 rfl) (wd hw 2 rfl) (wd hw 11 rfl) (by decide) pd_27 rfl rfl (rest := []) rfl (Nat.le_of_eq rfl) (cells' := 4) (slots' := 35) rfl rfl (by decide) (by decide) ?_
        rintro T5826 h5826 W5826 z5826 ⟨K5826, V5826⟩
        have V5822_5823_5824_5825_5826 := V5822_5823_5824_5825.keep K5826 (fun z => nea (List.mem_singleton.mp z).symm)
        have V5823_5824_5825_5826 := V5823_5824_5825.keep K5826 (fun z => neb (List.mem_singleton.mp z).symm)
        have V5824_5825_5826 := V5824_5825.keep K5826 (fun z => nec (List.mem_singleton.mp z).symm)
        have X5826 : Ext h0 h5826 := ext_keep X5825 K5826 (all1 lt5825)
        have LV5826 : (put (fill6 (List.replicate 20 0) 0 w0) (0 + lda) ca).length = 20 := by rw [put_len, fill6_put, put_len]; exact LV5825
        refine Go.aload W5826.cx d_code_171 (v := (.ref a5825)) rfl rfl ?_
        refine Go.bipush W5826.cx d_code_173 (z := (6 : Int32)) rfl ?_
        refine Go.iload W5826.cx d_code_175 (v := sp) rfl ?_
        refine Go.castore W5826 6 d_code_177 V5826 (by simp) rfl (by rw [LV5826]; decide) (by rw [LV5826]; decide) (x' := sp) (nar_ch hsr) ?_
        intro T5827 h5827 W5827 K5827 V5827
        have V5822_5823_5824_5825_5826_5827 := V5822_5823_5824_5825_5826.keep K5827 (fun z => nea (List.mem_singleton.mp z).symm)
        have V5823_5824_5825_5826_5827 := V5823_5824_5825_5826.keep K5827 (fun z => neb (List.mem_singleton.mp z).symm)
        have V5824_5825_5826_5827 := V5824_5825_5826.keep K5827 (fun z => nec (List.mem_singleton.mp z).symm)
        have X5827 : Ext h0 h5827 := ext_keep X5826 K5827 (all1 lt5825)
        have LV5827 : ((put (fill6 (List.replicate 20 0) 0 w0) (0 + lda) ca).set 6 sp).length = 20 := by rw [List.length_set]; exact LV5826
        refine Go.aload W5827.cx d_code_178 (v := (.ref a5825)) rfl rfl ?_
        refine Go.bipush W5827.cx d_code_180 (z := (7 : Int32)) rfl ?_
        refine Go.aload W5827.cx d_code_182 (v := (.ref r5823)) rfl rfl ?_
        refine Go.iload W5827.cx d_code_184 (v := i5) rfl ?_
        refine Go.bipush W5827.cx d_code_186 (z := (6 : Int32)) rfl ?_
        refine Go.iushr W5827.cx d_code_188 ?_
        refine Go.bipush W5827.cx d_code_189 (z := (7 : Int32)) rfl ?_
        refine Go.iand W5827.cx d_code_191 ?_
        refine Go.bipush W5827.cx d_code_192 (z := (7 : Int32)) rfl ?_
        refine Go.aload W5827.cx d_code_194 (v := (.ref r5823)) rfl rfl ?_
        refine Go.alen W5827 d_code_196 V5823_5824_5825_5826_5827 ?_
        refine Go.isub W5827.cx d_code_197 ?_
        refine Go.top (show (7 : Int32) - Int32.ofNat cb.length = Int32.ofNat (7 - cb.length) from sub_nat (a := 7) (by decide) (by omega)) ?_
        refine Go.irem W5827.cx d_code_198 (fun z => absurd ((eq0_nat (by omega)).mp z) (by omega)) ?_
        obtain ⟨jb, hjb, ejb⟩ := and_nat ((ush i5 6)) (7 : Int32) (k := 7) rfl (by decide)
        obtain ⟨ldb, hldb, elb⟩ : ∃ ld : Nat, ld < 7 - cb.length ∧ (ush i5 6 &&& 7) % Int32.ofNat (7 - cb.length) = Int32.ofNat ld := ⟨_, Nat.mod_lt _ (by omega), rem_nat ejb (by omega) (by omega) (by omega)⟩
        refine Go.top elb ?_
        refine Go.iload W5827.cx d_code_199 (v := w0) rfl ?_
        refine Go.invs0 W5827 (Ctr.call (wt := 0) (c_place l Z a0 hw hE W5827.old V5827 V5823_5824_5825_5826_5827 (Nat.le_trans (old_le hO) lt5825) neb LV5827 l5b chb (off := 7) (ld := ldb) (by decide) (by omega) hw0) W5827.ew (wd hw 11 rfl) (wd hw 2 rfl) (by simp) (by decide) (by decide)) d_code_201 (wd hw 9 rfl) (wd hw 10 rfl) (wd hw 2 rfl) (wd hw 11 rfl) (by decide) pd_27 rfl rfl (rest := []) rfl (Nat.le_of_eq rfl) (cells' := 4) (slots' := 35) rfl rfl (by decide) (by decide) ?_
        rintro T5828 h5828 W5828 z5828 ⟨K5828, V5828⟩
        have V5822_5823_5824_5825_5826_5827_5828 := V5822_5823_5824_5825_5826_5827.keep K5828 (fun z => nea (List.mem_singleton.mp z).symm)
        have V5823_5824_5825_5826_5827_5828 := V5823_5824_5825_5826_5827.keep K5828 (fun z => neb (List.mem_singleton.mp z).symm)
        have V5824_5825_5826_5827_5828 := V5824_5825_5826_5827.keep K5828 (fun z => nec (List.mem_singleton.mp z).symm)
        have X5828 : Ext h0 h5828 := ext_keep X5827 K5828 (all1 lt5825)
        have LV5828 : (put (fill6 ((put (fill6 (List.replicate 20 0) 0 w0) (0 + lda) ca).set 6 sp) 7 w0) (7 + ldb) cb).length = 20 := by rw [put_len, fill6_put, put_len]; exact LV5827
        refine Go.aload W5828.cx d_code_204 (v := (.ref a5825)) rfl rfl ?_
        refine Go.bipush W5828.cx d_code_206 (z := (13 : Int32)) rfl ?_
        refine Go.iload W5828.cx d_code_208 (v := sp) rfl ?_
        refine Go.castore W5828 13 d_code_210 V5828 (by simp) rfl (by rw [LV5828]; decide) (by rw [LV5828]; decide) (x' := sp) (nar_ch hsr) ?_
        intro T5829 h5829 W5829 K5829 V5829
        have V5822_5823_5824_5825_5826_5827_5828_5829 := V5822_5823_5824_5825_5826_5827_5828.keep K5829 (fun z => nea (List.mem_singleton.mp z).symm)
        have V5823_5824_5825_5826_5827_5828_5829 := V5823_5824_5825_5826_5827_5828.keep K5829 (fun z => neb (List.mem_singleton.mp z).symm)
        have V5824_5825_5826_5827_5828_5829 := V5824_5825_5826_5827_5828.keep K5829 (fun z => nec (List.mem_singleton.mp z).symm)
        have X5829 : Ext h0 h5829 := ext_keep X5828 K5829 (all1 lt5825)
        have LV5829 : ((put (fill6 ((put (fill6 (List.replicate 20 0) 0 w0) (0 + lda) ca).set 6 sp) 7 w0) (7 + ldb) cb).set 13 sp).length = 20 := by rw [List.length_set]; exact LV5828
        refine Go.aload W5829.cx d_code_211 (v := (.ref a5825)) rfl rfl ?_
        refine Go.bipush W5829.cx d_code_213 (z := (14 : Int32)) rfl ?_
        refine Go.aload W5829.cx d_code_215 (v := (.ref r5824)) rfl rfl ?_
        refine Go.iload W5829.cx d_code_217 (v := i5) rfl ?_
        refine Go.bipush W5829.cx d_code_219 (z := (9 : Int32)) rfl ?_
        refine Go.iushr W5829.cx d_code_221 ?_
        refine Go.bipush W5829.cx d_code_222 (z := (7 : Int32)) rfl ?_
        refine Go.iand W5829.cx d_code_224 ?_
        refine Go.bipush W5829.cx d_code_225 (z := (7 : Int32)) rfl ?_
        refine Go.aload W5829.cx d_code_227 (v := (.ref r5824)) rfl rfl ?_
        refine Go.alen W5829 d_code_229 V5824_5825_5826_5827_5828_5829 ?_
        refine Go.isub W5829.cx d_code_230 ?_
        refine Go.top (show (7 : Int32) - Int32.ofNat cc.length = Int32.ofNat (7 - cc.length) from sub_nat (a := 7) (by decide) (by omega)) ?_
        refine Go.irem W5829.cx d_code_231 (fun z => absurd ((eq0_nat (by omega)).mp z) (by omega)) ?_
        obtain ⟨jc, hjc, ejc⟩ := and_nat ((ush i5 9)) (7 : Int32) (k := 7) rfl (by decide)
        obtain ⟨ldc, hldc, elc⟩ : ∃ ld : Nat, ld < 7 - cc.length ∧ (ush i5 9 &&& 7) % Int32.ofNat (7 - cc.length) = Int32.ofNat ld := ⟨_, Nat.mod_lt _ (by omega), rem_nat ejc (by omega) (by omega) (by omega)⟩
        refine Go.top elc ?_
        refine Go.iload W5829.cx d_code_232 (v := w0) rfl ?_
        refine Go.invs0 W5829 (Ctr.call (wt := 0) (c_place l Z a0 hw hE W5829.old V5829 V5824_5825_5826_5827_5828_5829 (Nat.le_trans (old_le hO) lt5825) nec LV5829 l5c chc (off := 14) (ld := ldc) (by decide) (by omega) hw0) W5829.ew (wd hw 11 rfl) (wd hw 2 rfl) (by simp) (by decide) (by decide)) d_code_234 (wd hw 9 rfl) (wd hw 10 rfl) (wd hw 2 rfl) (wd hw 11 rfl) (by decide) pd_27 rfl rfl (rest := []) rfl (Nat.le_of_eq rfl) (cells' := 4) (slots' := 35) rfl rfl (by decide) (by decide) ?_
        rintro T5830 h5830 W5830 z5830 ⟨K5830, V5830⟩
        have V5822_5823_5824_5825_5826_5827_5828_5829_5830 := V5822_5823_5824_5825_5826_5827_5828_5829.keep K5830 (fun z => nea (List.mem_singleton.mp z).symm)
        have V5823_5824_5825_5826_5827_5828_5829_5830 := V5823_5824_5825_5826_5827_5828_5829.keep K5830 (fun z => neb (List.mem_singleton.mp z).symm)
        have V5824_5825_5826_5827_5828_5829_5830 := V5824_5825_5826_5827_5828_5829.keep K5830 (fun z => nec (List.mem_singleton.mp z).symm)
        have X5830 : Ext h0 h5830 := ext_keep X5829 K5830 (all1 lt5825)
        have LV5830 : (put (fill6 ((put (fill6 ((put (fill6 (List.replicate 20 0) 0 w0) (0 + lda) ca).set 6 sp) 7 w0) (7 + ldb) cb).set 13 sp) 14 w0) (14 + ldc) cc).length = 20 := by rw [put_len, fill6_put, put_len]; exact LV5829
        obtain ⟨tx, htx⟩ : ∃ z, z = sgm w0 ca lda ++ (sp :: (sgm w0 cb ldb ++ (sp :: sgm w0 cc ldc))) := ⟨_, rfl⟩
        have eT := text_eq w0 sp (ca := ca) (cb := cb) (cc := cc) (la := lda) (lb := ldb) (lc := ldc) (by omega) (by omega) (by omega) l5a l5b l5c
        rw [eT, ← htx] at V5830 LV5830
        have chT : ∀ c ∈ tx, ¬ c < 0 ∧ ¬ (255 : Int32) < c := by rw [htx]; exact txt_ch hw0 hsr cha chb chc
        refine Go.new W5830 d_code_237 (wd hw 12 rfl) (wd hw 13 rfl) (wd hw 14 rfl) (cells' := 5) (slots' := 39) rfl rfl (by decide) (by decide) ?_
        intro T5831 h5831 a5831 g5831 W5831 E5831 A5831 D5831
        have N5831 : NewS Z h5831 a5831 := ⟨A5831, D5831 (Or.inr (wd hw 40 rfl)) (t := .array .byte) (by decide), D5831 (Or.inr (wd hw 38 rfl)) (t := .byte) (by decide)⟩
        refine Go.dup W5831.cx d_code_240 rfl ?_
        refine Go.aload W5831.cx d_code_241 (v := (.ref a5825)) rfl rfl ?_
        have A5831T := V5830.ext E5831
        refine Go.invi W5831 (mk20 (wt := 1) W5831.ew hw hG N5831 A5831T (W5831.mine (by simp)) (by simp) chT LV5830 (by decide) (by decide)) d_code_243 rfl (wd hw 15 rfl) (wd hw 16 rfl) (wd hw 17 rfl) (by decide) pd_28 rfl rfl (rest := [(.ref a5831)]) rfl (Nat.le_of_eq rfl) (cells' := 6) (slots' := 59) rfl rfl (by decide) (by decide) ?_
        rintro T5832 h5832 W5832 z5832 ⟨K5832, S5832⟩
        have EX5832 := ext_keep E5831 K5832 (all1 (Nat.le_of_eq g5831.symm))
        have V5822_5823_5824_5825_5826_5827_5828_5829_5830_5832 := V5822_5823_5824_5825_5826_5827_5828_5829_5830.ext EX5832
        have V5823_5824_5825_5826_5827_5828_5829_5830_5832 := V5823_5824_5825_5826_5827_5828_5829_5830.ext EX5832
        have V5824_5825_5826_5827_5828_5829_5830_5832 := V5824_5825_5826_5827_5828_5829_5830.ext EX5832
        refine Go.astore W5832.cx d_code_246 (L' := #[.val (.int i0), .val (.int i1), .val (.int i2), .val (.int i3), .val (.int i4), .val (.int i5), .val (.int sp), .val (.int x), .val (.int w0), .val (.ref r5822), .val (.ref r5823), .val (.ref r5824), .val (.ref a5825), .val (.ref a5831), .unset, .unset, .unset, .unset]) rfl rfl ?_
        refine Go.new W5832 d_code_248 (wd hw 12 rfl) (wd hw 13 rfl) (wd hw 14 rfl) (cells' := 7) (slots' := 63) rfl rfl (by decide) (by decide) ?_
        intro T5833 h5833 a5833 g5833 W5833 E5833 A5833 D5833
        have N5833 : NewS Z h5833 a5833 := ⟨A5833, D5833 (Or.inr (wd hw 40 rfl)) (t := .array .byte) (by decide), D5833 (Or.inr (wd hw 38 rfl)) (t := .byte) (by decide)⟩
        refine Go.dup W5833.cx d_code_251 rfl ?_
        refine Go.aload W5833.cx d_code_252 (v := (.ref r5822)) rfl rfl ?_
        have A5833a := V5822_5823_5824_5825_5826_5827_5828_5829_5830_5832.ext E5833
        refine Go.invi W5833 (mk5 (wt := 1) W5833.ew hw hG N5833 A5833a (W5833.mine (by simp)) (by simp) cha l5a W5833.old (by decide) (by decide)) d_code_254 rfl (wd hw 15 rfl) (wd hw 16 rfl) (wd hw 17 rfl) (by decide) pd_28 rfl rfl (rest := [(.ref a5833)]) rfl (Nat.le_of_eq rfl) (cells' := 11) (slots' := 71) rfl rfl (by decide) (by decide) ?_
        rintro T5834 h5834 W5834 z5834 ⟨K5834, S5834⟩
        have EX5834 := ext_keep E5833 K5834 (all1 (Nat.le_of_eq g5833.symm))
        have V5822_5823_5824_5825_5826_5827_5828_5829_5830_5832_5834 := V5822_5823_5824_5825_5826_5827_5828_5829_5830_5832.ext EX5834
        have V5823_5824_5825_5826_5827_5828_5829_5830_5832_5834 := V5823_5824_5825_5826_5827_5828_5829_5830_5832.ext EX5834
        have V5824_5825_5826_5827_5828_5829_5830_5832_5834 := V5824_5825_5826_5827_5828_5829_5830_5832.ext EX5834
        have S5832_5834 := S5832.ext EX5834
        refine Go.astore W5834.cx d_code_257 (L' := #[.val (.int i0), .val (.int i1), .val (.int i2), .val (.int i3), .val (.int i4), .val (.int i5), .val (.int sp), .val (.int x), .val (.int w0), .val (.ref r5822), .val (.ref r5823), .val (.ref r5824), .val (.ref a5825), .val (.ref a5831), .val (.ref a5833), .unset, .unset, .unset]) rfl rfl ?_
        refine Go.new W5834 d_code_259 (wd hw 12 rfl) (wd hw 13 rfl) (wd hw 14 rfl) (cells' := 12) (slots' := 75) rfl rfl (by decide) (by decide) ?_
        intro T5835 h5835 a5835 g5835 W5835 E5835 A5835 D5835
        have N5835 : NewS Z h5835 a5835 := ⟨A5835, D5835 (Or.inr (wd hw 40 rfl)) (t := .array .byte) (by decide), D5835 (Or.inr (wd hw 38 rfl)) (t := .byte) (by decide)⟩
        refine Go.dup W5835.cx d_code_262 rfl ?_
        refine Go.aload W5835.cx d_code_263 (v := (.ref r5823)) rfl rfl ?_
        have A5835b := V5823_5824_5825_5826_5827_5828_5829_5830_5832_5834.ext E5835
        refine Go.invi W5835 (mk5 (wt := 1) W5835.ew hw hG N5835 A5835b (W5835.mine (by simp)) (by simp) chb l5b W5835.old (by decide) (by decide)) d_code_265 rfl (wd hw 15 rfl) (wd hw 16 rfl) (wd hw 17 rfl) (by decide) pd_28 rfl rfl (rest := [(.ref a5835)]) rfl (Nat.le_of_eq rfl) (cells' := 16) (slots' := 83) rfl rfl (by decide) (by decide) ?_
        rintro T5836 h5836 W5836 z5836 ⟨K5836, S5836⟩
        have EX5836 := ext_keep E5835 K5836 (all1 (Nat.le_of_eq g5835.symm))
        have V5822_5823_5824_5825_5826_5827_5828_5829_5830_5832_5834_5836 := V5822_5823_5824_5825_5826_5827_5828_5829_5830_5832_5834.ext EX5836
        have V5823_5824_5825_5826_5827_5828_5829_5830_5832_5834_5836 := V5823_5824_5825_5826_5827_5828_5829_5830_5832_5834.ext EX5836
        have V5824_5825_5826_5827_5828_5829_5830_5832_5834_5836 := V5824_5825_5826_5827_5828_5829_5830_5832_5834.ext EX5836
        have S5832_5834_5836 := S5832_5834.ext EX5836
        have S5834_5836 := S5834.ext EX5836
        refine Go.astore W5836.cx d_code_268 (L' := #[.val (.int i0), .val (.int i1), .val (.int i2), .val (.int i3), .val (.int i4), .val (.int i5), .val (.int sp), .val (.int x), .val (.int w0), .val (.ref r5822), .val (.ref r5823), .val (.ref r5824), .val (.ref a5825), .val (.ref a5831), .val (.ref a5833), .val (.ref a5835), .unset, .unset]) rfl rfl ?_
        refine Go.new W5836 d_code_270 (wd hw 12 rfl) (wd hw 13 rfl) (wd hw 14 rfl) (cells' := 17) (slots' := 87) rfl rfl (by decide) (by decide) ?_
        intro T5837 h5837 a5837 g5837 W5837 E5837 A5837 D5837
        have N5837 : NewS Z h5837 a5837 := ⟨A5837, D5837 (Or.inr (wd hw 40 rfl)) (t := .array .byte) (by decide), D5837 (Or.inr (wd hw 38 rfl)) (t := .byte) (by decide)⟩
        refine Go.dup W5837.cx d_code_273 rfl ?_
        refine Go.aload W5837.cx d_code_274 (v := (.ref r5824)) rfl rfl ?_
        have A5837c := V5824_5825_5826_5827_5828_5829_5830_5832_5834_5836.ext E5837
        refine Go.invi W5837 (mk5 (wt := 1) W5837.ew hw hG N5837 A5837c (W5837.mine (by simp)) (by simp) chc l5c W5837.old (by decide) (by decide)) d_code_276 rfl (wd hw 15 rfl) (wd hw 16 rfl) (wd hw 17 rfl) (by decide) pd_28 rfl rfl (rest := [(.ref a5837)]) rfl (Nat.le_of_eq rfl) (cells' := 21) (slots' := 95) rfl rfl (by decide) (by decide) ?_
        rintro T5838 h5838 W5838 z5838 ⟨K5838, S5838⟩
        have EX5838 := ext_keep E5837 K5838 (all1 (Nat.le_of_eq g5837.symm))
        have V5822_5823_5824_5825_5826_5827_5828_5829_5830_5832_5834_5836_5838 := V5822_5823_5824_5825_5826_5827_5828_5829_5830_5832_5834_5836.ext EX5838
        have V5823_5824_5825_5826_5827_5828_5829_5830_5832_5834_5836_5838 := V5823_5824_5825_5826_5827_5828_5829_5830_5832_5834_5836.ext EX5838
        have V5824_5825_5826_5827_5828_5829_5830_5832_5834_5836_5838 := V5824_5825_5826_5827_5828_5829_5830_5832_5834_5836.ext EX5838
        have S5832_5834_5836_5838 := S5832_5834_5836.ext EX5838
        have S5834_5836_5838 := S5834_5836.ext EX5838
        have S5836_5838 := S5836.ext EX5838
        refine Go.astore W5838.cx d_code_279 (L' := #[.val (.int i0), .val (.int i1), .val (.int i2), .val (.int i3), .val (.int i4), .val (.int i5), .val (.int sp), .val (.int x), .val (.int w0), .val (.ref r5822), .val (.ref r5823), .val (.ref r5824), .val (.ref a5825), .val (.ref a5831), .val (.ref a5833), .val (.ref a5835), .val (.ref a5837), .unset]) rfl rfl ?_
        refine Go.aload W5838.cx d_code_281 (v := (.ref a5831)) rfl rfl ?_
        refine Go.iload W5838.cx d_code_283 (v := sp) rfl ?_
        have ra : runA (false, false) (sgm w0 ca lda) = (false, false) := by rw [hca]; exact sgm_run hws hx34 hs34 hs92 hka
        have rb : runA (false, false) (sgm w0 cb ldb) = (false, false) := by rw [hcb]; exact sgm_run hws hx34 hs34 hs92 hkb
        have nva : noev sp (false, false) (sgm w0 ca lda) := by rw [hca]; exact sgm_noev hws hx34 hxs hs34 hs92 hs32 (by omega)
        have nvb : noev sp (false, false) (sgm w0 cb ldb) := by rw [hcb]; exact sgm_noev hws hx34 hxs hs34 hs92 hs32 (by omega)
        have nvc : noev sp (false, false) (sgm w0 cc ldc) := by rw [hcc]; exact sgm_noev hws hx34 hxs hs34 hs92 hs32 (by omega)
        have sla : (sgm w0 ca lda).length = 6 := sgm_len (by omega)
        have slb : (sgm w0 cb ldb).length = 6 := sgm_len (by omega)
        have slc : (sgm w0 cc ldc).length = 6 := sgm_len (by omega)
        obtain ⟨q1, q2, q3, q4, q5, q6, q7, e0, e7, e14⟩ := txt_facts htx sla slb slc ra rb nva nvb nvc hs34
        refine Go.invs1 W5838 (Ctr.call (wt := 0) (c_split l Z a0 hw hE W5838.old hG hL hD S5832_5834_5836_5838 LV5830 hs34 q1 q2 q3 q4 q5 q6 q7) W5838.ew (wd hw 47 rfl) (wd hw 46 rfl) (by simp) (by decide) (by decide)) d_code_285 (wd hw 44 rfl) (wd hw 45 rfl) (wd hw 46 rfl) (wd hw 47 rfl) (by decide) pd_29 rfl rfl (rest := []) rfl (Nat.le_of_eq rfl) (cells' := 35) (slots' := 172) rfl rfl (by decide) (by decide) ?_
        rintro T5839 h5839 _ W5839 z5839 ⟨bl, dl, v0, v1, v2, p0, p1, p2, rfl, E5839, B5839, U0, U1, U2, S05839, S15839, S25839⟩
        rw [e0] at U0
        rw [e7] at U1
        rw [e14] at U2
        have ep0 : p0 = ca := strp_eq hws (by omega) (by rw [hca]; exact core_ends hx32 hs32) U0
        rw [ep0] at S05839
        have S5834_5836_5838_5839 := S5834_5836_5838.ext E5839
        have ep1 : p1 = cb := strp_eq hws (by omega) (by rw [hcb]; exact core_ends hx32 hs32) U1
        rw [ep1] at S15839
        have S5836_5838_5839 := S5836_5838.ext E5839
        have ep2 : p2 = cc := strp_eq hws (by omega) (by rw [hcc]; exact core_ends hx32 hs32) U2
        rw [ep2] at S25839
        have S5838_5839 := S5838.ext E5839
        refine Go.astore W5839.cx d_code_288 (L' := #[.val (.int i0), .val (.int i1), .val (.int i2), .val (.int i3), .val (.int i4), .val (.int i5), .val (.int sp), .val (.int x), .val (.int w0), .val (.ref r5822), .val (.ref r5823), .val (.ref r5824), .val (.ref a5825), .val (.ref a5831), .val (.ref a5833), .val (.ref a5835), .val (.ref a5837), .val (.ref bl)]) rfl rfl ?_
        refine Go.aload W5839.cx d_code_290 (v := (.ref bl)) rfl rfl ?_
        refine Go.invf1 (y := (⟨"java/util/List", "size", "()I"⟩ : MethodName)) W5839 (Ctr.call (wt := 0) (c_size l Z a0 hw hE W5839.old B5839) W5839.ew (wd hw 220 rfl) (wd hw 50 rfl) (by simp) (by decide) (by decide)) d_code_292 (wd hw 213 rfl) (wd hw 214 rfl) (wd hw 215 rfl) (wd hw 216 rfl) (wd hw 217 rfl) (wd hw 218 rfl) (wd hw 219 rfl) (wd hw 179 rfl) (by decide) B5839.1 pd_9 rfl rfl (rest := []) rfl (Nat.le_of_eq rfl) (cells' := 35) (slots' := 172) rfl rfl (by decide) (by decide) ?_
        rintro T5840 h5840 _ W5840 z5840 ⟨rfl, e5840⟩
        subst e5840
        refine Go.iconst W5840.cx d_code_297 (z := (3 : Int32)) rfl ?_
        refine Go.icne W5840.cx d_code_298 (by decide) (q := 362) rfl (fun hh => (by first | exact absurd (rfl : Int32.ofNat 3 = 3) hh | exact absurd hh (rfl : Int32.ofNat 3 = 3))) (fun _ => ?_)
        refine Go.aload W5840.cx d_code_301 (v := (.ref bl)) rfl rfl ?_
        refine Go.iconst W5840.cx d_code_303 (z := (0 : Int32)) rfl ?_
        refine Go.invf1 (y := (⟨"java/util/List", "get", "(I)Ljava/lang/Object;"⟩ : MethodName)) W5840 (Ctr.call (wt := 0) (c_get l Z a0 hw hE W5840.old B5839 (i := 0) (v := v0) rfl (by decide) (by decide)) W5840.ew (wd hw 228 rfl) (wd hw 50 rfl) (by simp) (by decide) (by decide)) d_code_304 (wd hw 221 rfl) (wd hw 222 rfl) (wd hw 223 rfl) (wd hw 224 rfl) (wd hw 225 rfl) (wd hw 226 rfl) (wd hw 227 rfl) (wd hw 179 rfl) (by decide) B5839.1 pd_21 rfl rfl (rest := []) rfl (Nat.le_of_eq rfl) (cells' := 35) (slots' := 172) rfl rfl (by decide) (by decide) ?_
        rintro T5841 h5841 _ W5841 z5841 ⟨rfl, e5841⟩
        subst e5841
        refine Go.cast W5841 d_code_309 (wd hw 12 rfl) (Ins.self S05839.exa) ?_
        intro T5842 W5842
        refine Go.aload W5842.cx d_code_312 (v := (.ref a5833)) rfl rfl ?_
        refine Go.invv1 W5842 (strEq (wt := 0) W5842.ew hw hG S05839 S5834_5836_5838_5839 (by decide) (by decide)) d_code_314 (wd hw 239 rfl) (wd hw 240 rfl) (wd hw 242 rfl) (wd hw 241 rfl) (by decide) S05839.exa pd_24 rfl rfl (rest := []) rfl (Nat.le_of_eq rfl) (cells' := 35) (slots' := 172) rfl rfl (by decide) (by decide) ?_
        rintro T5843 h5843 _ W5843 z5843 ⟨rfl, e5843⟩
        subst e5843
        refine Go.ifeq W5843.cx d_code_317 (by decide) (q := 362) rfl (fun hh => (by first | exact absurd (show ¬ (if ca = ca then (1 : Int32) else 0) = 0 by rw [if_pos rfl]; decide) hh | exact absurd hh (show ¬ (if ca = ca then (1 : Int32) else 0) = 0 by rw [if_pos rfl]; decide))) (fun _ => ?_)
        refine Go.aload W5843.cx d_code_320 (v := (.ref bl)) rfl rfl ?_
        refine Go.iconst W5843.cx d_code_322 (z := (1 : Int32)) rfl ?_
        refine Go.invf1 (y := (⟨"java/util/List", "get", "(I)Ljava/lang/Object;"⟩ : MethodName)) W5843 (Ctr.call (wt := 0) (c_get l Z a0 hw hE W5843.old B5839 (i := 1) (v := v1) rfl (by decide) (by decide)) W5843.ew (wd hw 228 rfl) (wd hw 50 rfl) (by simp) (by decide) (by decide)) d_code_323 (wd hw 221 rfl) (wd hw 222 rfl) (wd hw 223 rfl) (wd hw 224 rfl) (wd hw 225 rfl) (wd hw 226 rfl) (wd hw 227 rfl) (wd hw 179 rfl) (by decide) B5839.1 pd_21 rfl rfl (rest := []) rfl (Nat.le_of_eq rfl) (cells' := 35) (slots' := 172) rfl rfl (by decide) (by decide) ?_
        rintro T5844 h5844 _ W5844 z5844 ⟨rfl, e5844⟩
        subst e5844
        refine Go.cast W5844 d_code_328 (wd hw 12 rfl) (Ins.self S15839.exa) ?_
        intro T5845 W5845
        refine Go.aload W5845.cx d_code_331 (v := (.ref a5835)) rfl rfl ?_
        refine Go.invv1 W5845 (strEq (wt := 0) W5845.ew hw hG S15839 S5836_5838_5839 (by decide) (by decide)) d_code_333 (wd hw 239 rfl) (wd hw 240 rfl) (wd hw 242 rfl) (wd hw 241 rfl) (by decide) S15839.exa pd_24 rfl rfl (rest := []) rfl (Nat.le_of_eq rfl) (cells' := 35) (slots' := 172) rfl rfl (by decide) (by decide) ?_
        rintro T5846 h5846 _ W5846 z5846 ⟨rfl, e5846⟩
        subst e5846
        refine Go.ifeq W5846.cx d_code_336 (by decide) (q := 362) rfl (fun hh => (by first | exact absurd (show ¬ (if cb = cb then (1 : Int32) else 0) = 0 by rw [if_pos rfl]; decide) hh | exact absurd hh (show ¬ (if cb = cb then (1 : Int32) else 0) = 0 by rw [if_pos rfl]; decide))) (fun _ => ?_)
        refine Go.aload W5846.cx d_code_339 (v := (.ref bl)) rfl rfl ?_
        refine Go.iconst W5846.cx d_code_341 (z := (2 : Int32)) rfl ?_
        refine Go.invf1 (y := (⟨"java/util/List", "get", "(I)Ljava/lang/Object;"⟩ : MethodName)) W5846 (Ctr.call (wt := 0) (c_get l Z a0 hw hE W5846.old B5839 (i := 2) (v := v2) rfl (by decide) (by decide)) W5846.ew (wd hw 228 rfl) (wd hw 50 rfl) (by simp) (by decide) (by decide)) d_code_342 (wd hw 221 rfl) (wd hw 222 rfl) (wd hw 223 rfl) (wd hw 224 rfl) (wd hw 225 rfl) (wd hw 226 rfl) (wd hw 227 rfl) (wd hw 179 rfl) (by decide) B5839.1 pd_21 rfl rfl (rest := []) rfl (Nat.le_of_eq rfl) (cells' := 35) (slots' := 172) rfl rfl (by decide) (by decide) ?_
        rintro T5847 h5847 _ W5847 z5847 ⟨rfl, e5847⟩
        subst e5847
        refine Go.cast W5847 d_code_347 (wd hw 12 rfl) (Ins.self S25839.exa) ?_
        intro T5848 W5848
        refine Go.aload W5848.cx d_code_350 (v := (.ref a5837)) rfl rfl ?_
        refine Go.invv1 W5848 (strEq (wt := 0) W5848.ew hw hG S25839 S5838_5839 (by decide) (by decide)) d_code_352 (wd hw 239 rfl) (wd hw 240 rfl) (wd hw 242 rfl) (wd hw 241 rfl) (by decide) S25839.exa pd_24 rfl rfl (rest := []) rfl (Nat.le_of_eq rfl) (cells' := 35) (slots' := 172) rfl rfl (by decide) (by decide) ?_
        rintro T5849 h5849 _ W5849 z5849 ⟨rfl, e5849⟩
        subst e5849
        refine Go.ifeq W5849.cx d_code_355 (by decide) (q := 362) rfl (fun hh => (by first | exact absurd (show ¬ (if cc = cc then (1 : Int32) else 0) = 0 by rw [if_pos rfl]; decide) hh | exact absurd hh (show ¬ (if cc = cc then (1 : Int32) else 0) = 0 by rw [if_pos rfl]; decide))) (fun _ => ?_)
        refine Go.iconst W5849.cx d_code_358 (z := (1 : Int32)) rfl ?_
        refine Go.goto W5849.cx d_code_359 (by decide) (q := 363) rfl ?_
        exact Go.iret W5849 d_code_363 (by simp) rfl (by decide) (by decide) ⟨_, rfl, rfl⟩
      refine Go.iload W5590.cx d_code_59 (v := x0) rfl ?_
      refine Go.iload W5590.cx d_code_61 (v := sp) rfl ?_
      refine Go.icne W5590.cx d_code_63 (by decide) (q := 82) rfl (fun c1 => ?_) (fun c1 => ?_)
      · exact J82 _ ⟨hx0.1, hx0.2.1, hx0.2.2, c1⟩ _ W5590
      · refine Go.iload W5590.cx d_code_66 (v := sp) rfl ?_
        refine Go.bipush W5590.cx d_code_68 (z := (97 : Int32)) rfl ?_
        refine Go.icne W5590.cx d_code_70 (by decide) (q := 78) rfl (fun c2 => ?_) (fun c2 => ?_)
        · refine Go.bipush W5590.cx d_code_78 (z := (97 : Int32)) rfl ?_
          refine Go.istore W5590.cx d_code_80 (L' := #[.val (.int i0), .val (.int i1), .val (.int i2), .val (.int i3), .val (.int i4), .val (.int i5), .val (.int sp), .val (.int (97 : Int32)), .unset, .unset, .unset, .unset, .unset, .unset, .unset, .unset, .unset, .unset]) rfl ?_
          exact J82 _ ⟨by decide, by decide, by decide, fun u => c2 u.symm⟩ _ W5590
        · refine Go.bipush W5590.cx d_code_73 (z := (98 : Int32)) rfl ?_
          refine Go.goto W5590.cx d_code_75 (by decide) (q := 80) rfl ?_
          refine Go.istore W5590.cx d_code_80 (L' := #[.val (.int i0), .val (.int i1), .val (.int i2), .val (.int i3), .val (.int i4), .val (.int i5), .val (.int sp), .val (.int (98 : Int32)), .unset, .unset, .unset, .unset, .unset, .unset, .unset, .unset, .unset, .unset]) rfl ?_
          exact J82 _ ⟨by decide, by decide, by decide, fun u => absurd (u.trans c2) (by decide)⟩ _ W5590
    refine Go.iload W5330.cx d_code_41 (v := (i1 &&& (255 : Int32))) rfl ?_
    refine Go.bipush W5330.cx d_code_43 (z := (32 : Int32)) rfl ?_
    refine Go.icle W5330.cx d_code_45 (by decide) (q := 55) rfl (fun c1 => ?_) (fun c1 => ?_)
    · refine Go.bipush W5330.cx d_code_55 (z := (97 : Int32)) rfl ?_
      refine Go.istore W5330.cx d_code_57 (L' := #[.val (.int i0), .val (.int i1), .val (.int i2), .val (.int i3), .val (.int i4), .val (.int i5), .val (.int sp), .val (.int (97 : Int32)), .unset, .unset, .unset, .unset, .unset, .unset, .unset, .unset, .unset, .unset]) rfl ?_
      exact J59 _ (by decide) _ W5330
    · refine Go.iload W5330.cx d_code_48 (v := (i1 &&& (255 : Int32))) rfl ?_
      refine Go.bipush W5330.cx d_code_50 (z := (34 : Int32)) rfl ?_
      refine Go.icne W5330.cx d_code_52 (by decide) (q := 59) rfl (fun c2 => ?_) (fun c2 => ?_)
      · exact J59 _ ⟨c1, c2, b255 i1⟩ _ W5330
      · refine Go.bipush W5330.cx d_code_55 (z := (97 : Int32)) rfl ?_
        refine Go.istore W5330.cx d_code_57 (L' := #[.val (.int i0), .val (.int i1), .val (.int i2), .val (.int i3), .val (.int i4), .val (.int i5), .val (.int sp), .val (.int (97 : Int32)), .unset, .unset, .unset, .unset, .unset, .unset, .unset, .unset, .unset, .unset]) rfl ?_
        exact J59 _ (by decide) _ W5330
  refine Go.iload W0.cx d_code_8 (v := (i0 &&& (255 : Int32))) rfl ?_
  refine Go.bipush W0.cx d_code_10 (z := (32 : Int32)) rfl ?_
  refine Go.icle W0.cx d_code_12 (by decide) (q := 29) rfl (fun c1 => ?_) (fun c1 => ?_)
  · refine Go.bipush W0.cx d_code_29 (z := (44 : Int32)) rfl ?_
    refine Go.istore W0.cx d_code_31 (L' := #[.val (.int i0), .val (.int i1), .val (.int i2), .val (.int i3), .val (.int i4), .val (.int i5), .val (.int (44 : Int32)), .unset, .unset, .unset, .unset, .unset, .unset, .unset, .unset, .unset, .unset, .unset]) rfl ?_
    exact J33 _ (by decide) _ W0
  · refine Go.iload W0.cx d_code_15 (v := (i0 &&& (255 : Int32))) rfl ?_
    refine Go.bipush W0.cx d_code_17 (z := (34 : Int32)) rfl ?_
    refine Go.iceq W0.cx d_code_19 (by decide) (q := 29) rfl (fun c2 => ?_) (fun c2 => ?_)
    · refine Go.bipush W0.cx d_code_29 (z := (44 : Int32)) rfl ?_
      refine Go.istore W0.cx d_code_31 (L' := #[.val (.int i0), .val (.int i1), .val (.int i2), .val (.int i3), .val (.int i4), .val (.int i5), .val (.int (44 : Int32)), .unset, .unset, .unset, .unset, .unset, .unset, .unset, .unset, .unset, .unset, .unset]) rfl ?_
      exact J33 _ (by decide) _ W0
    · refine Go.iload W0.cx d_code_22 (v := (i0 &&& (255 : Int32))) rfl ?_
      refine Go.bipush W0.cx d_code_24 (z := (92 : Int32)) rfl ?_
      refine Go.icne W0.cx d_code_26 (by decide) (q := 33) rfl (fun c3 => ?_) (fun c3 => ?_)
      · exact J33 _ ⟨c1, c2, c3, b255 i0⟩ _ W0
      · refine Go.bipush W0.cx d_code_29 (z := (44 : Int32)) rfl ?_
        refine Go.istore W0.cx d_code_31 (L' := #[.val (.int i0), .val (.int i1), .val (.int i2), .val (.int i3), .val (.int i4), .val (.int i5), .val (.int (44 : Int32)), .unset, .unset, .unset, .unset, .unset, .unset, .unset, .unset, .unset, .unset, .unset]) rfl ?_
        exact J33 _ (by decide) _ W0
set_option maxRecDepth 65536 in
theorem tbl_at : ∀ i : Fin 256, jdkStatics_1[26 + i.val]? = some (Cond.eq (Term.elem (Term.static "java/lang/CharacterDataLatin1" "A" "[I") (Term.int (Int32.ofNat i.val))) (Term.int (TBL.getD i.val 0))) := by decide +kernel
theorem oar0 {args : Array Value} {Z : State} {t : Term} {C ad : String} {a : Addr} (ha : (Cond.arrayOf t (.object C)).value args Z none Z [] = some true) (hx : (Cond.exactly t ad).value args Z none Z [] = some true) (hl : (Cond.eq (Term.length t) (Term.int 0)).value args Z none Z [] = some true) (ev : t.eval args Z none [] Z = some (.ref a)) : OAr Z Z.heap a C ad [] := by
  obtain ⟨cl, A⟩ := Arr.start ev ha
  obtain ⟨b', cl', eb', ec', hsz, el⟩ := Jvm.Lib.length_spec (eq_int_of hl)
  cases ev.symm.trans eb'
  have hcl : cl' = cl := by
    have := A.1
    simp only [State.arrayAt?, Option.bind_eq_bind, Option.bind_eq_some_iff] at ec'
    obtain ⟨c1, h1, k1, -, h2⟩ := ec'
    rw [this] at h1
    cases h1
    split at h2
    · cases h2
    · split at h2
      · exact (Option.some.inj h2).symm
      · cases h2
  subst hcl
  have hs2 : cl'.slots.size = 0 := ((eq_nat (a := 0) (by omega) hsz).mp (show Int32.ofNat 0 = Int32.ofNat cl'.slots.size from Value.int.inj el)).symm
  exact ⟨cl', A, Exa.start ev hx, Array.eq_empty_of_size_eq_zero hs2, fun v q => nomatch q⟩
set_option maxRecDepth 65536 in
set_option maxHeartbeats 40000000 in
theorem comes_1 {Post : Tables → Env → Array Value → State → Outcome → State → Prop} (hpost : ∀ tb e args s v u, (limb_1_1.after args s (.returned v) u = true ∧ limb_1_2.after args s (.returned v) u = true ∧ True) → ReturnedEndW s (.returned v) u (Jvm.fieldLocs frame_1_writes args s ++ Jvm.arrayLocs frame_1_arrays args s ++ Jvm.staticLocs frame_1_statics s) 64 2432 → Post tb e args s (.returned v) u) :
    ArmFor flags0 classFile x code maxLocals ret World_1 tables_1 room_1 Calls_1 rest_1 Pre_1 Post := by
  intro l hfl _ _ p e ha hc hk s m args below hf hA hF happ hP
  obtain ⟨hcalls, hrest, hpre⟩ := hP
  obtain ⟨-, -, -, hnamed, -, -, -, hat⟩ := (Spec.applies_iff hf).mp happ
  obtain ⟨hg, hn⟩ := and_e (Cond.before_iff.mp (show (Jvm.Cond.and given_1 narrow_1).before args s = true from hpre))
  obtain ⟨hcnt, hgv⟩ := and_e hg
  obtain ⟨g0, r0⟩ := and_e hgv
  obtain ⟨g1, r1⟩ := and_e r0
  obtain ⟨g2, r2⟩ := and_e r1
  obtain ⟨g3, r3⟩ := and_e r2
  obtain ⟨g4, r4⟩ := and_e r3
  obtain ⟨w0, w1, w2, w3, w4, w5, rfl⟩ : ∃ w0 w1 w2 w3 w4 w5 : Value, args = #[w0, w1, w2, w3, w4, w5] := by
    have hs : args.size = 6 := by simpa [Cond.value, given_1] using hcnt
    obtain ⟨L⟩ := args
    match L, hs with
    | [w0, w1, w2, w3, w4, w5], _ => exact ⟨w0, w1, w2, w3, w4, w5, rfl⟩
  have hw := fun d (hd : d ∈ tables_1) => atoms_spec (ws := Jvm.Cond.code x code maxLocals ret :: tables_1) hat d (List.mem_cons_of_mem _ hd)
  obtain ⟨hsets, hown0⟩ := atoms_of _ (rest_1_c_eq ▸ (show rest_1_c.before _ s = true from hrest))
  have hr0 := Cond.before_iff.mp hown0
  obtain ⟨i0, e0⟩ := is_v g0
  obtain rfl : w0 = (.int i0) := Option.some.inj e0
  obtain ⟨i1, e1⟩ := is_v g1
  obtain rfl : w1 = (.int i1) := Option.some.inj e1
  obtain ⟨i2, e2⟩ := is_v g2
  obtain rfl : w2 = (.int i2) := Option.some.inj e2
  obtain ⟨i3, e3⟩ := is_v g3
  obtain rfl : w3 = (.int i3) := Option.some.inj e3
  obtain ⟨i4, e4⟩ := is_v g4
  obtain rfl : w4 = (.int i4) := Option.some.inj e4
  obtain ⟨i5, e5⟩ := is_v r4
  obtain rfl : w5 = (.int i5) := Option.some.inj e5
  have n5 := not_v (Cond.before_iff.mp (hsets _ (List.mem_of_getElem? (i := 2) rfl)))
  obtain ⟨i11, e10⟩ := is_v (Cond.before_iff.mp (hsets _ (List.mem_of_getElem? (i := 1) rfl)))
  have S12 : Sta s s.heap "java/lang/String" "COMPACT_STRINGS" "Z" (.int i11) := Sta.start e10 (Or.inl (hsets _ (List.mem_of_getElem? (i := 0) rfl)))
  obtain ⟨v13, e14, r15⟩ := isR_v (Cond.before_iff.mp (hsets _ (List.mem_of_getElem? (i := 8) rfl)))
  have S16 : Sta s s.heap "jdk/internal/util/Preconditions" "SIOOBE_FORMATTER" "Ljava/util/function/BiFunction;" v13 := Sta.start e14 (Or.inl (hsets _ (List.mem_of_getElem? (i := 7) rfl)))
  have c17 : ¬ (i11 = (0 : Int32)) := gotF (Cond.eq_ints e10 (Term.int_eval (0))) n5
  have hG : Gl s := ⟨⟨i11, S12, c17⟩, v13, S16, r15⟩
  have hE : EW s #[.int i0, .int i1, .int i2, .int i3, .int i4, .int i5] EL0 := EW.cons (wd hw 41 rfl) (by decide) (EW.cons (wd hw 212 rfl) (by decide) (EW.nil))
  have hCH : CHv s EL0 s.vm s.heap := CHv.start hE (fun q hq => hcalls.1 q hq) (hsets _ (List.mem_of_getElem? (i := 2) rfl)) (wd hw 30 rfl) (wd hw 13 rfl)
  have q20 := Cond.before_iff.mp (hsets _ (List.mem_of_getElem? (i := 20) rfl))
  have q23 := Cond.before_iff.mp (hsets _ (List.mem_of_getElem? (i := 23) rfl))
  have q15 := Cond.before_iff.mp (hsets _ (List.mem_of_getElem? (i := 15) rfl))
  have q16 := Cond.before_iff.mp (hsets _ (List.mem_of_getElem? (i := 16) rfl))
  have q17 := Cond.before_iff.mp (hsets _ (List.mem_of_getElem? (i := 17) rfl))
  obtain ⟨ins, eins⟩ := exa_v q20
  obtain ⟨DA, eDA⟩ := arr_v q23
  obtain ⟨cl, AA⟩ := Arr.start eDA q23
  have hL : Lat s := ⟨ins, DA, Sta.start eins (Or.inl (hsets _ (List.mem_of_getElem? (i := 19) rfl))), Exa.start eins q20, Sta.start eDA (Or.inl (hsets _ (List.mem_of_getElem? (i := 22) rfl))), cl, AA, fun i hi => elem_slot eDA AA.1 (by omega) (eq_int_of (Cond.before_iff.mp (hsets _ (List.mem_of_getElem? (tbl_at ⟨i, hi⟩)))))⟩
  obtain ⟨DD, eDD⟩ := exa_v q16
  have hD : DF s DD := ⟨Sta.start eDD (Or.inr ⟨(wd hw 50 rfl), hsets _ (List.mem_of_getElem? (i := 11) rfl)⟩), oar0 q15 q16 q17 eDD⟩
  obtain ⟨n, o, h1, h2, h3, v, L, rfl, ⟨w, rfl, rfl⟩, N, -, -, ⟨r1, r2, r3, r4⟩, hnw⟩ := c_law l s _ hw hE (Old.start s) hG hL hD i0 i1 i2 i3 i4 i5 tables_1 p e ha hc hk s m _ below hf ((Spec.applies_iff_loose hf).mp happ).1 ⟨rfl, rfl, State.Warmed39.refl s, hCH, fun _ q => nomatch q⟩ trivial
  exact ⟨n, _, h1, h2, h3, hpost _ _ _ _ _ _ ⟨Cond.after_iff.mpr rfl, Cond.after_iff.mpr (eq_i res_at (Term.int_eval (1)) rfl), trivial⟩ ⟨r1, r2, r3, (r4.sift fun y hy => Or.inr (N y hy)).mono (by decide) (by decide)⟩⟩
theorem main_1_1 : Claimed_1_1 := comes_1 fun _ _ _ _ _ _ h hF => ⟨h.1, hF⟩
theorem main_1_2 : Claimed_1_2 := comes_1 fun _ _ _ _ _ _ h hF => ⟨h.2.1, hF⟩
end Jvm.Pilot.@@N@@
namespace Jvm.Pilot.@@N@@
open Jvm Jvm.ClassFile Sem Op Lib Jvm.Free Jvm.Stand Jvm.Pilot.@@N@@.Jvm.D
/-! MADE BY PROGRAM (witnessworld.py) out of the Statement's table words and the real class files: 35 classes; the members and pool entries that the words name. The judged class is class 1, her method 4. -/
namespace start1
open Jvm.ClassFile
def u (s : String) : CpInfo := .utf8 (stringToUtf16 s)
/-- a pool by its gaps: so many unusable entries, then the entry; so many at the end -/
def gap : Nat → List CpInfo → List CpInfo
  | 0, r => r
  | n + 1, r => .unusable :: gap n r
def poolList (es : List (Nat × CpInfo)) (last : Nat) : List CpInfo := es.foldr (fun e r => gap e.1 (e.2 :: r)) (gap last [])
def pool (es : List (Nat × CpInfo)) (last : Nat) : Array CpInfo := ⟨poolList es last⟩
def fileOf (pool : Array CpInfo) (this : Nat) (attrs : Array Attribute := #[]) (ms : Array MethodInfo := #[]) (fl : Nat := 33) (sup : Nat := 0) (ifs : Array Nat := #[]) (fds : Array FieldInfo := #[]) : ClassFile where
  minorVersion := 0
  majorVersion := 65
  constantPool := pool
  accessFlags := fl
  thisClass := this
  superClass := sup
  interfaces := ifs
  fields := fds
  methods := ms
  attributes := attrs
def plain (name : String) (sup : Option ClassId) : Class where
  name := name
  kind := .ordinary
  loader := none
  accessFlags := 33
  super := sup
  interfaces := #[]
  cf := none
  fields := #[]
  methods := #[]
  instanceTypes := #[]
  staticTypes := #[]
  resolved := #[]
  callSites := []
  init := .initialized
  statics := none
  mirror := none

def pool0 : Array CpInfo := pool [(5, u "<init>"), (0, u "()V"), (1, .class_ 10), (1, u "java/lang/Object")] 113

def k0c0 : Code := { maxStack := 0, maxLocals := 1, code := object_method_1_code, exceptionTable := #[], attributes := #[] }
def k0m0 : Method := { name := "<init>", desc := "()V", sig := { parameters := [], returnType := none }, accessFlags := 1, code := some k0c0 }
/-- java/lang/Object -/
def k0 : Class := { plain "java/lang/Object" none with
  accessFlags := 33
  interfaces := #[]
  cf := some (fileOf pool0 8 #[] #[{ accessFlags := 1, nameIndex := 5, descriptorIndex := 6, attributes := #[] }] 33 0 #[] #[])
  fields := #[]
  methods := #[k0m0]
  instanceTypes := #[]
  staticTypes := #[]
  resolved := Array.replicate 124 none
  statics := none }

def pool1 : Array CpInfo := pool [(2, .class_ 4), (1, u "java/lang/Object"), (0, u "<init>"), (0, u "()V"), (0, .methodref 8 9), (0, .class_ 10), (0, .nameAndType 11 12), (0, u "com/example/wheal/wheal/FieldValuesSplitPinLaw"), (0, u "ws"), (0, u "(I)C"), (0, .integer 2147483647), (0, .methodref 8 15), (0, .nameAndType 16 17), (0, u "core"), (0, u "(ICC)[C"), (0, .methodref 8 19), (0, .nameAndType 20 21), (0, u "place"), (0, u "([CI[CIC)V"), (0, .class_ 23), (0, u "java/lang/String"), (0, .methodref 22 25), (0, .nameAndType 5 26), (0, u "([C)V"), (0, .methodref 28 29), (0, .class_ 30), (0, .nameAndType 31 32), (0, u "com/example/wheal/wheal/FieldValues"), (0, u "split"), (0, u "(Ljava/lang/String;C)Ljava/util/List;"), (0, .interfaceMethodref 34 35), (0, .class_ 36), (0, .nameAndType 37 38), (0, u "java/util/List"), (0, u "size"), (0, u "()I"), (0, .interfaceMethodref 34 40), (0, .nameAndType 41 42), (0, u "get"), (0, u "(I)Ljava/lang/Object;"), (0, .methodref 22 44), (0, .nameAndType 45 46), (0, u "equals"), (0, u "(Ljava/lang/Object;)Z"), (3, u "law"), (0, u "(IIIIII)Z")] 4

def k1m0 : Method := { name := "<init>", desc := "()V", sig := { parameters := [], returnType := none }, accessFlags := 1, code := none }
def k1c1 : Code := { maxStack := 2, maxLocals := 1, code := method_2_code, exceptionTable := #[], attributes := #[] }
def k1m1 : Method := { name := "ws", desc := "(I)C", sig := { parameters := [.int], returnType := some .char }, accessFlags := 10, code := some k1c1 }
def k1c2 : Code := { maxStack := 4, maxLocals := 3, code := method_3_code, exceptionTable := #[], attributes := #[] }
def k1m2 : Method := { name := "core", desc := "(ICC)[C", sig := { parameters := [.int, .char, .char], returnType := some (.array .char) }, accessFlags := 10, code := some k1c2 }
def k1c3 : Code := { maxStack := 4, maxLocals := 5, code := method_4_code, exceptionTable := #[], attributes := #[] }
def k1m3 : Method := { name := "place", desc := "([CI[CIC)V", sig := { parameters := [(.array .char), .int, (.array .char), .int, .char], returnType := none }, accessFlags := 10, code := some k1c3 }
def k1c4 : Code := { maxStack := 6, maxLocals := 18, code := code, exceptionTable := #[], attributes := #[] }
def k1m4 : Method := { name := "law", desc := "(IIIIII)Z", sig := { parameters := [.int, .int, .int, .int, .int, .int], returnType := some .boolean }, accessFlags := 9, code := some k1c4 }
/-- com/example/wheal/wheal/FieldValuesSplitPinLaw -/
def k1 : Class := { plain "com/example/wheal/wheal/FieldValuesSplitPinLaw" (some 0) with
  accessFlags := 49
  interfaces := #[]
  cf := some (fileOf pool1 8 #[] #[{ accessFlags := 1, nameIndex := 5, descriptorIndex := 6, attributes := #[] }, { accessFlags := 10, nameIndex := 11, descriptorIndex := 12, attributes := #[] }, { accessFlags := 10, nameIndex := 16, descriptorIndex := 17, attributes := #[] }, { accessFlags := 10, nameIndex := 20, descriptorIndex := 21, attributes := #[] }, { accessFlags := 9, nameIndex := 50, descriptorIndex := 51, attributes := #[] }] 49 2 #[] #[])
  fields := #[]
  methods := #[k1m0, k1m1, k1m2, k1m3, k1m4]
  instanceTypes := #[]
  staticTypes := #[]
  resolved := Array.replicate 56 none
  statics := none }

def pool2 : Array CpInfo := pool [(1, .class_ 2), (0, u "java/io/Serializable"), (0, .class_ 4), (0, u "java/lang/Object")] 2

/-- java/io/Serializable -/
def k2 : Class := { plain "java/io/Serializable" (some 0) with
  accessFlags := 1537
  interfaces := #[]
  cf := some (fileOf pool2 1 #[] #[] 1537 3 #[] #[])
  fields := #[]
  methods := #[]
  instanceTypes := #[]
  staticTypes := #[]
  resolved := Array.replicate 7 none
  statics := none }

def pool3 : Array CpInfo := pool [(1, .class_ 2), (0, u "java/lang/Comparable"), (0, .class_ 4), (0, u "java/lang/Object")] 7

/-- java/lang/Comparable -/
def k3 : Class := { plain "java/lang/Comparable" (some 0) with
  accessFlags := 1537
  interfaces := #[]
  cf := some (fileOf pool3 1 #[] #[] 1537 3 #[] #[])
  fields := #[]
  methods := #[]
  instanceTypes := #[]
  staticTypes := #[]
  resolved := Array.replicate 12 none
  statics := none }

def pool4 : Array CpInfo := pool [(2, .class_ 4), (1, u "java/lang/CharSequence"), (42, .class_ 48), (0, u "java/lang/CharSequence$1CodePointIterator"), (10, .class_ 60), (0, u "java/lang/CharSequence$1CharIterator"), (5, .class_ 67), (0, u "java/lang/Object")] 63

/-- java/lang/CharSequence -/
def k4 : Class := { plain "java/lang/CharSequence" (some 0) with
  accessFlags := 1537
  interfaces := #[]
  cf := some (fileOf pool4 2 #[.nestMembers #[47, 59]] #[] 1537 66 #[] #[])
  fields := #[]
  methods := #[]
  instanceTypes := #[]
  staticTypes := #[]
  resolved := Array.replicate 131 none
  statics := none }

def pool5 : Array CpInfo := pool [(1, .class_ 2), (0, u "java/lang/constant/Constable"), (0, .class_ 4), (0, u "java/lang/Object")] 6

/-- java/lang/constant/Constable -/
def k5 : Class := { plain "java/lang/constant/Constable" (some 0) with
  accessFlags := 1537
  interfaces := #[]
  cf := some (fileOf pool5 1 #[] #[] 1537 3 #[] #[])
  fields := #[]
  methods := #[]
  instanceTypes := #[]
  staticTypes := #[]
  resolved := Array.replicate 11 none
  statics := none }

def pool6 : Array CpInfo := pool [(1, .class_ 2), (0, u "java/lang/constant/ConstantDesc"), (0, .class_ 4), (0, u "java/lang/Object")] 32

/-- java/lang/constant/ConstantDesc -/
def k6 : Class := { plain "java/lang/constant/ConstantDesc" (some 0) with
  accessFlags := 1537
  interfaces := #[]
  cf := some (fileOf pool6 1 #[] #[] 1537 3 #[] #[])
  fields := #[]
  methods := #[]
  instanceTypes := #[]
  staticTypes := #[]
  resolved := Array.replicate 37 none
  statics := none }

def pool7 : Array CpInfo := pool [(1, .methodref 2 3), (0, .class_ 4), (0, .nameAndType 5 6), (0, u "java/lang/Object"), (0, u "<init>"), (0, u "()V"), (0, .string 8), (0, u ""), (0, .fieldref 10 11), (0, .class_ 12), (0, .nameAndType 13 14), (0, u "java/lang/String"), (0, u "value"), (0, u "[B"), (0, .fieldref 10 16), (0, .nameAndType 17 18), (0, u "coder"), (0, u "B"), (2, u "hash"), (0, u "I"), (2, u "hashIsZero"), (0, u "Z"), (0, .methodref 10 28), (0, .nameAndType 5 29), (0, u "([CIILjava/lang/Void;)V"), (8, .fieldref 10 39), (0, .nameAndType 40 26), (0, u "COMPACT_STRINGS"), (1, .class_ 44), (1, u "java/lang/StringUTF16"), (0, u "compress"), (1, .methodref 42 48), (0, .nameAndType 49 50), (0, u "coderFromArrayLen"), (0, u "([BI)B"), (56, .class_ 109), (1, u "java/lang/StringLatin1"), (32, u "()Z"), (34, .methodref 42 178), (0, .nameAndType 45 179), (0, u "([CII)[B"), (31, u "([BB)V"), (122, u "()I"), (0, .methodref 10 336), (0, .nameAndType 17 337), (0, u "()B"), (25, u "([BI)C"), (27, u "(II)V"), (35, u "(I)C"), (36, u "()Ljava/lang/String;"), (27, .methodref 10 493), (0, .nameAndType 494 142), (0, u "isLatin1"), (0, .methodref 107 496), (0, .nameAndType 497 363), (0, u "charAt"), (3, u "checkIndex"), (3, .methodref 10 506), (0, .nameAndType 507 334), (0, u "length"), (5, u "checkFromToIndex"), (7, .methodref 10 522), (0, .nameAndType 523 524), (0, u "checkBoundsBeginEnd"), (0, u "(III)V"), (16, .methodref 107 542), (0, .nameAndType 543 544), (0, u "equals"), (0, u "([B[B)Z"), (28, u "(Ljava/lang/Object;)Z"), (1, .class_ 576), (0, u "java/lang/CharSequence"), (22, u "CASE_INSENSITIVE_ORDER"), (0, u "Ljava/util/Comparator;"), (80, .methodref 10 682), (0, .nameAndType 683 684), (0, u "substring"), (0, u "(II)Ljava/lang/String;"), (0, .methodref 107 686), (0, .nameAndType 687 688), (0, u "newString"), (0, u "([BII)Ljava/lang/String;"), (173, u "([B)Ljava/lang/String;"), (1, .methodref 107 865), (0, .nameAndType 866 862), (0, u "strip"), (25, u "(I)Ljava/lang/String;"), (117, u "([C)V"), (42, .fieldref 1054 1055), (0, .class_ 1056), (0, .nameAndType 1057 1058), (0, u "jdk/internal/util/Preconditions"), (0, u "SIOOBE_FORMATTER"), (0, u "Ljava/util/function/BiFunction;"), (0, .methodref 1054 1060), (0, .nameAndType 501 1061), (0, u "(IILjava/util/function/BiFunction;)I"), (0, .methodref 1054 1063), (0, .nameAndType 513 1064), (0, u "(IIILjava/util/function/BiFunction;)I"), (36, u "serialPersistentFields"), (0, u "[Ljava/io/ObjectStreamField;"), (0, .class_ 1104), (0, u "java/lang/String$CaseInsensitiveComparator"), (1, .class_ 1107), (0, u "java/io/Serializable"), (0, .class_ 1109), (0, u "java/lang/Comparable"), (0, .class_ 1111), (0, u "java/lang/constant/Constable"), (0, .class_ 1113), (0, u "java/lang/constant/ConstantDesc"), (2, u "serialVersionUID"), (0, u "J"), (3, u "REPL"), (0, u "C"), (2, u "LATIN1"), (1, u "UTF16")] 323

def k7m0 : Method := { name := "<init>", desc := "()V", sig := { parameters := [], returnType := none }, accessFlags := 1, code := none }
def k7c1 : Code := { maxStack := 5, maxLocals := 2, code := jdk_42_method_3_code, exceptionTable := #[], attributes := #[] }
def k7m1 : Method := { name := "<init>", desc := "([C)V", sig := { parameters := [(.array .char)], returnType := none }, accessFlags := 1, code := some k7c1 }
def k7c2 : Code := { maxStack := 2, maxLocals := 1, code := jdk_42_method_54_code, exceptionTable := #[], attributes := #[] }
def k7m2 : Method := { name := "length", desc := "()I", sig := { parameters := [], returnType := some .int }, accessFlags := 1, code := some k7c2 }
def k7c3 : Code := { maxStack := 2, maxLocals := 2, code := jdk_42_method_56_code, exceptionTable := #[], attributes := #[] }
def k7m3 : Method := { name := "charAt", desc := "(I)C", sig := { parameters := [.int], returnType := some .char }, accessFlags := 1, code := some k7c3 }
def k7c4 : Code := { maxStack := 2, maxLocals := 3, code := jdk_42_method_66_code, exceptionTable := #[], attributes := #[] }
def k7m4 : Method := { name := "equals", desc := "(Ljava/lang/Object;)Z", sig := { parameters := [(.object "java/lang/Object")], returnType := some .boolean }, accessFlags := 1, code := some k7c4 }
def k7c5 : Code := { maxStack := 3, maxLocals := 2, code := jdk_42_method_91_code, exceptionTable := #[], attributes := #[] }
def k7m5 : Method := { name := "substring", desc := "(I)Ljava/lang/String;", sig := { parameters := [.int], returnType := some (.object "java/lang/String") }, accessFlags := 1, code := some k7c5 }
def k7c6 : Code := { maxStack := 3, maxLocals := 5, code := jdk_42_method_92_code, exceptionTable := #[], attributes := #[] }
def k7m6 : Method := { name := "substring", desc := "(II)Ljava/lang/String;", sig := { parameters := [.int, .int], returnType := some (.object "java/lang/String") }, accessFlags := 1, code := some k7c6 }
def k7c7 : Code := { maxStack := 1, maxLocals := 2, code := jdk_42_method_114_code, exceptionTable := #[], attributes := #[] }
def k7m7 : Method := { name := "strip", desc := "()Ljava/lang/String;", sig := { parameters := [], returnType := some (.object "java/lang/String") }, accessFlags := 1, code := some k7c7 }
def k7c8 : Code := { maxStack := 4, maxLocals := 6, code := jdk_42_method_149_code, exceptionTable := #[], attributes := #[] }
def k7m8 : Method := { name := "<init>", desc := "([CIILjava/lang/Void;)V", sig := { parameters := [(.array .char), .int, .int, (.object "java/lang/Void")], returnType := none }, accessFlags := 2, code := some k7c8 }
def k7c9 : Code := { maxStack := 2, maxLocals := 3, code := jdk_42_method_151_code, exceptionTable := #[], attributes := #[] }
def k7m9 : Method := { name := "<init>", desc := "([BB)V", sig := { parameters := [(.array .byte), .byte], returnType := none }, accessFlags := 0, code := some k7c9 }
def k7c10 : Code := { maxStack := 1, maxLocals := 1, code := jdk_42_method_152_code, exceptionTable := #[], attributes := #[] }
def k7m10 : Method := { name := "coder", desc := "()B", sig := { parameters := [], returnType := some .byte }, accessFlags := 0, code := some k7c10 }
def k7c11 : Code := { maxStack := 1, maxLocals := 1, code := jdk_42_method_154_code, exceptionTable := #[], attributes := #[] }
def k7m11 : Method := { name := "isLatin1", desc := "()Z", sig := { parameters := [], returnType := some .boolean }, accessFlags := 0, code := some k7c11 }
def k7c12 : Code := { maxStack := 3, maxLocals := 2, code := jdk_42_method_155_code, exceptionTable := #[], attributes := #[] }
def k7m12 : Method := { name := "checkIndex", desc := "(II)V", sig := { parameters := [.int, .int], returnType := none }, accessFlags := 8, code := some k7c12 }
def k7c13 : Code := { maxStack := 4, maxLocals := 3, code := jdk_42_method_158_code, exceptionTable := #[], attributes := #[] }
def k7m13 : Method := { name := "checkBoundsBeginEnd", desc := "(III)V", sig := { parameters := [.int, .int, .int], returnType := none }, accessFlags := 8, code := some k7c13 }
/-- java/lang/String -/
def k7 : Class := { plain "java/lang/String" (some 0) with
  accessFlags := 49
  interfaces := #[2, 3, 4, 5, 6]
  cf := some (fileOf pool7 10 #[.nestMembers #[1103]] #[{ accessFlags := 1, nameIndex := 5, descriptorIndex := 6, attributes := #[] }, { accessFlags := 1, nameIndex := 5, descriptorIndex := 1010, attributes := #[] }, { accessFlags := 1, nameIndex := 507, descriptorIndex := 334, attributes := #[] }, { accessFlags := 1, nameIndex := 497, descriptorIndex := 427, attributes := #[] }, { accessFlags := 1, nameIndex := 543, descriptorIndex := 573, attributes := #[] }, { accessFlags := 1, nameIndex := 683, descriptorIndex := 892, attributes := #[] }, { accessFlags := 1, nameIndex := 683, descriptorIndex := 684, attributes := #[] }, { accessFlags := 1, nameIndex := 866, descriptorIndex := 464, attributes := #[] }, { accessFlags := 2, nameIndex := 5, descriptorIndex := 29, attributes := #[] }, { accessFlags := 0, nameIndex := 5, descriptorIndex := 211, attributes := #[] }, { accessFlags := 0, nameIndex := 17, descriptorIndex := 337, attributes := #[] }, { accessFlags := 0, nameIndex := 494, descriptorIndex := 142, attributes := #[] }, { accessFlags := 8, nameIndex := 501, descriptorIndex := 391, attributes := #[] }, { accessFlags := 8, nameIndex := 523, descriptorIndex := 524, attributes := #[] }] 49 2 #[1106, 1108, 575, 1110, 1112] #[{ accessFlags := 18, nameIndex := 13, descriptorIndex := 14, attributes := #[] }, { accessFlags := 18, nameIndex := 17, descriptorIndex := 18, attributes := #[] }, { accessFlags := 2, nameIndex := 21, descriptorIndex := 22, attributes := #[] }, { accessFlags := 2, nameIndex := 25, descriptorIndex := 26, attributes := #[] }, { accessFlags := 26, nameIndex := 1116, descriptorIndex := 1117, attributes := #[] }, { accessFlags := 24, nameIndex := 40, descriptorIndex := 26, attributes := #[] }, { accessFlags := 26, nameIndex := 1101, descriptorIndex := 1102, attributes := #[] }, { accessFlags := 26, nameIndex := 1121, descriptorIndex := 1122, attributes := #[] }, { accessFlags := 25, nameIndex := 599, descriptorIndex := 600, attributes := #[] }, { accessFlags := 24, nameIndex := 1125, descriptorIndex := 18, attributes := #[] }, { accessFlags := 24, nameIndex := 1127, descriptorIndex := 18, attributes := #[] }])
  fields := #[{ name := "value", type := (.array .byte), accessFlags := 18, slot := 0, constantValue := 0 }, { name := "coder", type := .byte, accessFlags := 18, slot := 1, constantValue := 0 }, { name := "hash", type := .int, accessFlags := 2, slot := 2, constantValue := 0 }, { name := "hashIsZero", type := .boolean, accessFlags := 2, slot := 3, constantValue := 0 }, { name := "serialVersionUID", type := .long, accessFlags := 26, slot := 0, constantValue := 0 }, { name := "COMPACT_STRINGS", type := .boolean, accessFlags := 24, slot := 1, constantValue := 0 }, { name := "serialPersistentFields", type := (.array (.object "java/io/ObjectStreamField")), accessFlags := 26, slot := 2, constantValue := 0 }, { name := "REPL", type := .char, accessFlags := 26, slot := 3, constantValue := 0 }, { name := "CASE_INSENSITIVE_ORDER", type := (.object "java/util/Comparator"), accessFlags := 25, slot := 4, constantValue := 0 }, { name := "LATIN1", type := .byte, accessFlags := 24, slot := 5, constantValue := 0 }, { name := "UTF16", type := .byte, accessFlags := 24, slot := 6, constantValue := 0 }]
  methods := #[k7m0, k7m1, k7m2, k7m3, k7m4, k7m5, k7m6, k7m7, k7m8, k7m9, k7m10, k7m11, k7m12, k7m13]
  instanceTypes := #[(.array .byte), .byte, .int, .boolean]
  staticTypes := #[.long, .boolean, (.array (.object "java/io/ObjectStreamField")), .char, (.object "java/util/Comparator"), .byte, .byte]
  resolved := Array.replicate 1451 none
  statics := some 0 }

def pool8 : Array CpInfo := pool [(6, .class_ 8), (1, u "java/lang/Object"), (0, u "<init>"), (0, u "()V"), (1, .class_ 14), (1, u "java/lang/StringUTF16"), (31, u "$assertionsDisabled"), (0, u "Z"), (13, u "HI_BYTE_SHIFT"), (0, u "I"), (2, u "LO_BYTE_SHIFT"), (49, .methodref 12 116), (0, .nameAndType 117 118), (0, u "compress"), (0, u "([CI[BII)I"), (3, u "([CII)[B"), (138, u "coderFromArrayLen"), (0, u "([BI)B"), (106, .class_ 371), (1, u "java/lang/StringUTF16$LinesSpliterator"), (58, u "MAX_LENGTH"), (196, .class_ 628), (0, u "java/lang/StringUTF16$CodePointsSpliterator"), (0, .class_ 630), (0, u "java/lang/StringUTF16$CharsSpliterator")] 4

def k8m0 : Method := { name := "<init>", desc := "()V", sig := { parameters := [], returnType := none }, accessFlags := 0, code := none }
def k8c1 : Code := { maxStack := 2, maxLocals := 2, code := jdk_52_method_15_code, exceptionTable := #[], attributes := #[] }
def k8m1 : Method := { name := "coderFromArrayLen", desc := "([BI)B", sig := { parameters := [(.array .byte), .int], returnType := some .byte }, accessFlags := 8, code := some k8c1 }
def k8c2 : Code := { maxStack := 5, maxLocals := 6, code := jdk_52_method_16_code, exceptionTable := #[], attributes := #[] }
def k8m2 : Method := { name := "compress", desc := "([CII)[B", sig := { parameters := [(.array .char), .int, .int], returnType := some (.array .byte) }, accessFlags := 9, code := some k8c2 }
def k8c3 : Code := { maxStack := 3, maxLocals := 7, code := jdk_52_method_21_code, exceptionTable := #[], attributes := #[] }
def k8m3 : Method := { name := "compress", desc := "([CI[BII)I", sig := { parameters := [(.array .char), .int, (.array .byte), .int, .int], returnType := some .int }, accessFlags := 9, code := some k8c3 }
/-- java/lang/StringUTF16 -/
def k8 : Class := { plain "java/lang/StringUTF16" (some 0) with
  accessFlags := 48
  interfaces := #[]
  cf := some (fileOf pool8 12 #[.nestMembers #[627, 629, 369]] #[{ accessFlags := 0, nameIndex := 9, descriptorIndex := 10, attributes := #[] }, { accessFlags := 8, nameIndex := 261, descriptorIndex := 262, attributes := #[] }, { accessFlags := 9, nameIndex := 117, descriptorIndex := 122, attributes := #[] }, { accessFlags := 9, nameIndex := 117, descriptorIndex := 118, attributes := #[] }] 48 6 #[] #[{ accessFlags := 26, nameIndex := 61, descriptorIndex := 62, attributes := #[] }, { accessFlags := 26, nameIndex := 65, descriptorIndex := 62, attributes := #[] }, { accessFlags := 24, nameIndex := 430, descriptorIndex := 62, attributes := #[] }, { accessFlags := 4120, nameIndex := 46, descriptorIndex := 47, attributes := #[] }])
  fields := #[{ name := "HI_BYTE_SHIFT", type := .int, accessFlags := 26, slot := 0, constantValue := 0 }, { name := "LO_BYTE_SHIFT", type := .int, accessFlags := 26, slot := 1, constantValue := 0 }, { name := "MAX_LENGTH", type := .int, accessFlags := 24, slot := 2, constantValue := 0 }, { name := "$assertionsDisabled", type := .boolean, accessFlags := 4120, slot := 3, constantValue := 0 }]
  methods := #[k8m0, k8m1, k8m2, k8m3]
  instanceTypes := #[]
  staticTypes := #[.int, .int, .int, .boolean]
  resolved := Array.replicate 635 none
  statics := none }

def pool9 : Array CpInfo := pool [(2, .class_ 4), (0, .nameAndType 5 6), (0, u "java/lang/Object"), (0, u "<init>"), (0, u "()V"), (0, .class_ 8), (0, u "java/util/ArrayList"), (0, .methodref 7 3), (0, .methodref 11 12), (0, .class_ 13), (0, .nameAndType 14 15), (0, u "java/lang/String"), (0, u "length"), (0, u "()I"), (0, .methodref 11 17), (0, .nameAndType 18 19), (0, u "charAt"), (0, u "(I)C"), (0, .methodref 11 21), (0, .nameAndType 22 23), (0, u "substring"), (0, u "(II)Ljava/lang/String;"), (0, .methodref 11 25), (0, .nameAndType 26 27), (0, u "strip"), (0, u "()Ljava/lang/String;"), (0, .interfaceMethodref 29 30), (0, .class_ 31), (0, .nameAndType 32 33), (0, u "java/util/List"), (0, u "add"), (0, u "(Ljava/lang/Object;)Z"), (0, .methodref 11 35), (0, .nameAndType 22 36), (0, u "(I)Ljava/lang/String;"), (6, .class_ 44), (0, u "com/example/wheal/wheal/FieldValues"), (10, u "TOKEN_VALUE"), (0, u "Ljava/util/regex/Pattern;"), (7, u "PARAMETER"), (0, u "TOKEN"), (0, u "Ljava/lang/String;"), (3, u "split"), (0, u "(Ljava/lang/String;C)Ljava/util/List;"), (8, .class_ 81), (0, u "com/example/wheal/wheal/FieldValues$Parameter")] 2

def k9m0 : Method := { name := "<init>", desc := "()V", sig := { parameters := [], returnType := none }, accessFlags := 2, code := none }
def k9c1 : Code := { maxStack := 4, maxLocals := 8, code := prog_1_method_2_code, exceptionTable := #[], attributes := #[] }
def k9m1 : Method := { name := "split", desc := "(Ljava/lang/String;C)Ljava/util/List;", sig := { parameters := [(.object "java/lang/String"), .char], returnType := some (.object "java/util/List") }, accessFlags := 8, code := some k9c1 }
/-- com/example/wheal/wheal/FieldValues -/
def k9 : Class := { plain "com/example/wheal/wheal/FieldValues" (some 0) with
  accessFlags := 48
  interfaces := #[]
  cf := some (fileOf pool9 43 #[.nestMembers #[80]] #[{ accessFlags := 2, nameIndex := 5, descriptorIndex := 6, attributes := #[] }, { accessFlags := 8, nameIndex := 70, descriptorIndex := 71, attributes := #[] }] 48 2 #[] #[{ accessFlags := 24, nameIndex := 65, descriptorIndex := 66, attributes := #[] }, { accessFlags := 26, nameIndex := 55, descriptorIndex := 56, attributes := #[] }, { accessFlags := 26, nameIndex := 64, descriptorIndex := 56, attributes := #[] }])
  fields := #[{ name := "TOKEN", type := (.object "java/lang/String"), accessFlags := 24, slot := 0, constantValue := 0 }, { name := "TOKEN_VALUE", type := (.object "java/util/regex/Pattern"), accessFlags := 26, slot := 1, constantValue := 0 }, { name := "PARAMETER", type := (.object "java/util/regex/Pattern"), accessFlags := 26, slot := 2, constantValue := 0 }]
  methods := #[k9m0, k9m1]
  instanceTypes := #[]
  staticTypes := #[(.object "java/lang/String"), (.object "java/util/regex/Pattern"), (.object "java/util/regex/Pattern")]
  resolved := Array.replicate 84 none
  statics := none }

def pool10 : Array CpInfo := pool [(8, .class_ 10), (1, u "java/lang/Iterable"), (24, .class_ 36), (0, u "java/lang/Object")] 25

/-- java/lang/Iterable -/
def k10 : Class := { plain "java/lang/Iterable" (some 0) with
  accessFlags := 1537
  interfaces := #[]
  cf := some (fileOf pool10 8 #[] #[] 1537 35 #[] #[])
  fields := #[]
  methods := #[]
  instanceTypes := #[]
  staticTypes := #[]
  resolved := Array.replicate 62 none
  statics := none }

def pool11 : Array CpInfo := pool [(10, .class_ 12), (1, u "java/util/Collection"), (47, .class_ 61), (0, u "java/lang/Object"), (0, .class_ 63), (0, u "java/lang/Iterable")] 51

/-- java/util/Collection -/
def k11 : Class := { plain "java/util/Collection" (some 0) with
  accessFlags := 1537
  interfaces := #[10]
  cf := some (fileOf pool11 10 #[] #[] 1537 60 #[62] #[])
  fields := #[]
  methods := #[]
  instanceTypes := #[]
  staticTypes := #[]
  resolved := Array.replicate 115 none
  statics := none }

def pool12 : Array CpInfo := pool [(1, .methodref 2 3), (0, .class_ 4), (0, .nameAndType 5 6), (0, u "java/lang/Object"), (0, u "<init>"), (0, u "()V"), (1, .class_ 10), (1, u "java/util/AbstractCollection"), (66, .class_ 78), (0, u "java/util/Collection")] 81

def k12c0 : Code := { maxStack := 1, maxLocals := 1, code := jdk_22_method_1_code, exceptionTable := #[], attributes := #[] }
def k12m0 : Method := { name := "<init>", desc := "()V", sig := { parameters := [], returnType := none }, accessFlags := 4, code := some k12c0 }
/-- java/util/AbstractCollection -/
def k12 : Class := { plain "java/util/AbstractCollection" (some 0) with
  accessFlags := 1057
  interfaces := #[11]
  cf := some (fileOf pool12 8 #[] #[{ accessFlags := 4, nameIndex := 5, descriptorIndex := 6, attributes := #[] }] 1057 2 #[77] #[])
  fields := #[]
  methods := #[k12m0]
  instanceTypes := #[]
  staticTypes := #[]
  resolved := Array.replicate 160 none
  statics := none }

def pool13 : Array CpInfo := pool [(8, .class_ 10), (1, u "java/util/SequencedCollection"), (15, .class_ 27), (0, u "java/lang/Object"), (0, .class_ 29), (0, u "java/util/Collection")] 27

/-- java/util/SequencedCollection -/
def k13 : Class := { plain "java/util/SequencedCollection" (some 0) with
  accessFlags := 1537
  interfaces := #[11]
  cf := some (fileOf pool13 8 #[] #[] 1537 26 #[28] #[])
  fields := #[]
  methods := #[]
  instanceTypes := #[]
  staticTypes := #[]
  resolved := Array.replicate 57 none
  statics := none }

def pool14 : Array CpInfo := pool [(8, .class_ 10), (1, u "java/util/List"), (49, u "add"), (3, u "(Ljava/lang/Object;)Z"), (10, u "get"), (0, u "(I)Ljava/lang/Object;"), (2, u "size"), (0, u "()I"), (22, .class_ 104), (0, u "java/lang/Object"), (15, .class_ 121), (0, u "java/util/SequencedCollection")] 129

def k14m0 : Method := { name := "size", desc := "()I", sig := { parameters := [], returnType := some .int }, accessFlags := 1025, code := none }
def k14m1 : Method := { name := "add", desc := "(Ljava/lang/Object;)Z", sig := { parameters := [(.object "java/lang/Object")], returnType := some .boolean }, accessFlags := 1025, code := none }
def k14m2 : Method := { name := "get", desc := "(I)Ljava/lang/Object;", sig := { parameters := [.int], returnType := some (.object "java/lang/Object") }, accessFlags := 1025, code := none }
/-- java/util/List -/
def k14 : Class := { plain "java/util/List" (some 0) with
  accessFlags := 1537
  interfaces := #[13]
  cf := some (fileOf pool14 8 #[] #[{ accessFlags := 1025, nameIndex := 79, descriptorIndex := 80, attributes := #[] }, { accessFlags := 1025, nameIndex := 60, descriptorIndex := 64, attributes := #[] }, { accessFlags := 1025, nameIndex := 75, descriptorIndex := 76, attributes := #[] }] 1537 103 #[120] #[])
  fields := #[]
  methods := #[k14m0, k14m1, k14m2]
  instanceTypes := #[]
  staticTypes := #[]
  resolved := Array.replicate 251 none
  statics := none }

def pool15 : Array CpInfo := pool [(1, .methodref 2 3), (0, .class_ 4), (0, .nameAndType 5 6), (0, u "java/util/AbstractCollection"), (0, u "<init>"), (0, u "()V"), (0, .fieldref 8 9), (0, .class_ 10), (0, .nameAndType 11 12), (0, u "java/util/AbstractList"), (0, u "modCount"), (0, u "I"), (64, .class_ 78), (0, u "java/util/AbstractList$Itr"), (3, .class_ 83), (0, u "java/util/AbstractList$ListItr"), (9, .class_ 94), (0, u "java/util/AbstractList$RandomAccessSubList"), (3, .class_ 99), (0, u "java/util/AbstractList$SubList"), (33, .class_ 134), (0, u "java/util/List"), (73, .class_ 209), (0, u "java/util/AbstractList$SubList$1"), (0, .class_ 211), (0, u "java/util/AbstractList$RandomAccessSpliterator")] 6

def k15c0 : Code := { maxStack := 2, maxLocals := 1, code := jdk_39_method_1_code, exceptionTable := #[], attributes := #[] }
def k15m0 : Method := { name := "<init>", desc := "()V", sig := { parameters := [], returnType := none }, accessFlags := 4, code := some k15c0 }
/-- java/util/AbstractList -/
def k15 : Class := { plain "java/util/AbstractList" (some 12) with
  accessFlags := 1057
  interfaces := #[14]
  cf := some (fileOf pool15 8 #[.nestMembers #[93, 98, 208, 210, 82, 77]] #[{ accessFlags := 4, nameIndex := 5, descriptorIndex := 6, attributes := #[] }] 1057 2 #[133] #[{ accessFlags := 132, nameIndex := 11, descriptorIndex := 12, attributes := #[] }])
  fields := #[{ name := "modCount", type := .int, accessFlags := 132, slot := 0, constantValue := 0 }]
  methods := #[k15m0]
  instanceTypes := #[.int]
  staticTypes := #[]
  resolved := Array.replicate 218 none
  statics := none }

def pool16 : Array CpInfo := pool [(1, .class_ 2), (0, u "java/util/RandomAccess"), (0, .class_ 4), (0, u "java/lang/Object")] 2

/-- java/util/RandomAccess -/
def k16 : Class := { plain "java/util/RandomAccess" (some 0) with
  accessFlags := 1537
  interfaces := #[]
  cf := some (fileOf pool16 1 #[] #[] 1537 3 #[] #[])
  fields := #[]
  methods := #[]
  instanceTypes := #[]
  staticTypes := #[]
  resolved := Array.replicate 7 none
  statics := none }

def pool17 : Array CpInfo := pool [(1, .class_ 2), (0, u "java/lang/Cloneable"), (0, .class_ 4), (0, u "java/lang/Object")] 2

/-- java/lang/Cloneable -/
def k17 : Class := { plain "java/lang/Cloneable" (some 0) with
  accessFlags := 1537
  interfaces := #[]
  cf := some (fileOf pool17 1 #[] #[] 1537 3 #[] #[])
  fields := #[]
  methods := #[]
  instanceTypes := #[]
  staticTypes := #[]
  resolved := Array.replicate 7 none
  statics := none }

def pool18 : Array CpInfo := pool [(1, .methodref 2 3), (0, .class_ 4), (0, .nameAndType 5 6), (0, u "java/util/AbstractList"), (0, u "<init>"), (0, u "()V"), (0, .class_ 8), (0, u "java/lang/Object"), (0, .fieldref 10 11), (0, .class_ 12), (0, .nameAndType 13 14), (0, u "java/util/ArrayList"), (0, u "elementData"), (0, u "[Ljava/lang/Object;"), (2, u "EMPTY_ELEMENTDATA"), (21, .fieldref 10 40), (0, .nameAndType 41 14), (0, u "DEFAULTCAPACITY_EMPTY_ELEMENTDATA"), (5, u "()[Ljava/lang/Object;"), (0, .fieldref 10 49), (0, .nameAndType 50 51), (0, u "size"), (0, u "I"), (11, .fieldref 10 64), (0, .nameAndType 65 51), (0, u "modCount"), (3, .methodref 10 70), (0, .nameAndType 71 72), (0, u "grow"), (0, u "(I)[Ljava/lang/Object;"), (6, .methodref 80 81), (0, .class_ 82), (0, .nameAndType 83 84), (0, u "java/lang/Math"), (0, u "max"), (0, u "(II)I"), (11, u "(Ljava/lang/Object;)Z"), (21, .methodref 119 120), (0, .class_ 121), (0, .nameAndType 122 84), (0, u "java/util/Objects"), (0, u "checkIndex"), (0, .methodref 10 124), (0, .nameAndType 13 125), (0, u "(I)Ljava/lang/Object;"), (3, .methodref 10 130), (0, .nameAndType 71 47), (0, .methodref 10 132), (0, .nameAndType 133 134), (0, u "add"), (0, u "(Ljava/lang/Object;[Ljava/lang/Object;I)V"), (13, .class_ 149), (0, u "java/util/List"), (36, u "()I"), (75, .class_ 263), (0, u "java/util/ArrayList$ListItr"), (3, .class_ 268), (0, u "java/util/ArrayList$Itr"), (7, .class_ 277), (0, u "java/util/ArrayList$SubList"), (12, .class_ 291), (0, u "java/util/ArrayList$ArrayListSpliterator"), (37, .class_ 330), (0, u "java/util/RandomAccess"), (0, .class_ 332), (0, u "java/lang/Cloneable"), (0, .class_ 334), (0, u "java/io/Serializable"), (0, u "serialVersionUID"), (0, u "J"), (3, u "DEFAULT_CAPACITY"), (40, u "get"), (118, .class_ 501), (0, u "java/util/ArrayList$SubList$2"), (0, .class_ 503), (0, u "java/util/ArrayList$SubList$1")] 5

def k18c0 : Code := { maxStack := 2, maxLocals := 1, code := jdk_38_method_2_code, exceptionTable := #[], attributes := #[] }
def k18m0 : Method := { name := "<init>", desc := "()V", sig := { parameters := [], returnType := none }, accessFlags := 1, code := some k18c0 }
def k18c1 : Code := { maxStack := 4, maxLocals := 4, code := jdk_38_method_6_code, exceptionTable := #[], attributes := #[] }
def k18m1 : Method := { name := "grow", desc := "(I)[Ljava/lang/Object;", sig := { parameters := [.int], returnType := some (.array (.object "java/lang/Object")) }, accessFlags := 2, code := some k18c1 }
def k18c2 : Code := { maxStack := 3, maxLocals := 1, code := jdk_38_method_7_code, exceptionTable := #[], attributes := #[] }
def k18m2 : Method := { name := "grow", desc := "()[Ljava/lang/Object;", sig := { parameters := [], returnType := some (.array (.object "java/lang/Object")) }, accessFlags := 2, code := some k18c2 }
def k18c3 : Code := { maxStack := 1, maxLocals := 1, code := jdk_38_method_8_code, exceptionTable := #[], attributes := #[] }
def k18m3 : Method := { name := "size", desc := "()I", sig := { parameters := [], returnType := some .int }, accessFlags := 1, code := some k18c3 }
def k18c4 : Code := { maxStack := 2, maxLocals := 2, code := jdk_38_method_18_code, exceptionTable := #[], attributes := #[] }
def k18m4 : Method := { name := "elementData", desc := "(I)Ljava/lang/Object;", sig := { parameters := [.int], returnType := some (.object "java/lang/Object") }, accessFlags := 0, code := some k18c4 }
def k18c5 : Code := { maxStack := 2, maxLocals := 2, code := jdk_38_method_20_code, exceptionTable := #[], attributes := #[] }
def k18m5 : Method := { name := "get", desc := "(I)Ljava/lang/Object;", sig := { parameters := [.int], returnType := some (.object "java/lang/Object") }, accessFlags := 1, code := some k18c5 }
def k18c6 : Code := { maxStack := 3, maxLocals := 4, code := jdk_38_method_24_code, exceptionTable := #[], attributes := #[] }
def k18m6 : Method := { name := "add", desc := "(Ljava/lang/Object;[Ljava/lang/Object;I)V", sig := { parameters := [(.object "java/lang/Object"), (.array (.object "java/lang/Object")), .int], returnType := none }, accessFlags := 2, code := some k18c6 }
def k18c7 : Code := { maxStack := 4, maxLocals := 2, code := jdk_38_method_25_code, exceptionTable := #[], attributes := #[] }
def k18m7 : Method := { name := "add", desc := "(Ljava/lang/Object;)Z", sig := { parameters := [(.object "java/lang/Object")], returnType := some .boolean }, accessFlags := 1, code := some k18c7 }
/-- java/util/ArrayList -/
def k18 : Class := { plain "java/util/ArrayList" (some 15) with
  accessFlags := 33
  interfaces := #[14, 16, 17, 2]
  cf := some (fileOf pool18 10 #[.nestMembers #[290, 276, 500, 502, 262, 267]] #[{ accessFlags := 1, nameIndex := 5, descriptorIndex := 6, attributes := #[] }, { accessFlags := 2, nameIndex := 71, descriptorIndex := 72, attributes := #[] }, { accessFlags := 2, nameIndex := 71, descriptorIndex := 47, attributes := #[] }, { accessFlags := 1, nameIndex := 50, descriptorIndex := 186, attributes := #[] }, { accessFlags := 0, nameIndex := 13, descriptorIndex := 125, attributes := #[] }, { accessFlags := 1, nameIndex := 381, descriptorIndex := 125, attributes := #[] }, { accessFlags := 2, nameIndex := 133, descriptorIndex := 134, attributes := #[] }, { accessFlags := 1, nameIndex := 133, descriptorIndex := 96, attributes := #[] }] 33 2 #[148, 329, 331, 333] #[{ accessFlags := 26, nameIndex := 335, descriptorIndex := 336, attributes := #[] }, { accessFlags := 26, nameIndex := 340, descriptorIndex := 51, attributes := #[] }, { accessFlags := 26, nameIndex := 17, descriptorIndex := 14, attributes := #[] }, { accessFlags := 26, nameIndex := 41, descriptorIndex := 14, attributes := #[] }, { accessFlags := 128, nameIndex := 13, descriptorIndex := 14, attributes := #[] }, { accessFlags := 2, nameIndex := 50, descriptorIndex := 51, attributes := #[] }])
  fields := #[{ name := "serialVersionUID", type := .long, accessFlags := 26, slot := 0, constantValue := 0 }, { name := "DEFAULT_CAPACITY", type := .int, accessFlags := 26, slot := 1, constantValue := 0 }, { name := "EMPTY_ELEMENTDATA", type := (.array (.object "java/lang/Object")), accessFlags := 26, slot := 2, constantValue := 0 }, { name := "DEFAULTCAPACITY_EMPTY_ELEMENTDATA", type := (.array (.object "java/lang/Object")), accessFlags := 26, slot := 3, constantValue := 0 }, { name := "elementData", type := (.array (.object "java/lang/Object")), accessFlags := 128, slot := 1, constantValue := 0 }, { name := "size", type := .int, accessFlags := 2, slot := 2, constantValue := 0 }]
  methods := #[k18m0, k18m1, k18m2, k18m3, k18m4, k18m5, k18m6, k18m7]
  instanceTypes := #[.int, (.array (.object "java/lang/Object")), .int]
  staticTypes := #[.long, .int, (.array (.object "java/lang/Object")), (.array (.object "java/lang/Object"))]
  resolved := Array.replicate 509 none
  statics := some 1 }

def pool19 : Array CpInfo := pool [(1, .class_ 2), (0, u "java/lang/String"), (1, .class_ 6), (1, u "java/lang/Object"), (0, u "<init>"), (0, u "()V"), (0, .methodref 1 10), (0, .nameAndType 11 12), (0, u "checkIndex"), (0, u "(II)V"), (1, .class_ 16), (1, u "java/lang/StringLatin1"), (33, .methodref 14 51), (0, .nameAndType 52 53), (0, u "getChar"), (0, u "([BI)C"), (3, u "([B)I"), (8, .fieldref 67 68), (0, .class_ 69), (0, .nameAndType 70 71), (0, u "java/lang/CharacterDataLatin1"), (0, u "instance"), (0, u "Ljava/lang/CharacterDataLatin1;"), (19, u "(I)Z"), (20, .methodref 1 113), (0, .nameAndType 7 114), (0, u "([BB)V"), (6, u "$assertionsDisabled"), (0, u "Z"), (8, .class_ 133), (1, u "java/util/Arrays"), (17, .string 152), (0, u ""), (42, .nameAndType 196 197), (0, u "newString"), (0, u "([BII)Ljava/lang/String;"), (12, .methodref 14 195), (0, .methodref 67 212), (0, .nameAndType 213 91), (0, u "isWhitespace"), (0, .methodref 14 215), (0, .nameAndType 216 57), (0, u "indexOfNonWhitespace"), (0, .methodref 14 218), (0, .nameAndType 219 57), (0, u "lastIndexOfNonWhitespace"), (1, .class_ 223), (1, u "java/lang/StringLatin1$LinesSpliterator"), (8, .methodref 131 233), (0, .nameAndType 234 235), (0, u "copyOfRange"), (0, u "([BII)[B"), (16, u "charAt"), (28, u "equals"), (0, u "([B[B)Z"), (84, u "([B)Ljava/lang/String;"), (3, u "strip"), (18, .class_ 391), (0, u "java/lang/StringLatin1$CharsSpliterator")] 3

def k19m0 : Method := { name := "<init>", desc := "()V", sig := { parameters := [], returnType := none }, accessFlags := 0, code := none }
def k19c1 : Code := { maxStack := 2, maxLocals := 2, code := jdk_43_method_2_code, exceptionTable := #[], attributes := #[] }
def k19m1 : Method := { name := "charAt", desc := "([BI)C", sig := { parameters := [(.array .byte), .int], returnType := some .char }, accessFlags := 9, code := some k19c1 }
def k19c2 : Code := { maxStack := 3, maxLocals := 3, code := jdk_43_method_13_code, exceptionTable := #[], attributes := #[] }
def k19m2 : Method := { name := "equals", desc := "([B[B)Z", sig := { parameters := [(.array .byte), (.array .byte)], returnType := some .boolean }, accessFlags := 9, code := some k19c2 }
def k19c3 : Code := { maxStack := 2, maxLocals := 4, code := jdk_43_method_37_code, exceptionTable := #[], attributes := #[] }
def k19m3 : Method := { name := "indexOfNonWhitespace", desc := "([B)I", sig := { parameters := [(.array .byte)], returnType := some .int }, accessFlags := 9, code := some k19c3 }
def k19c4 : Code := { maxStack := 3, maxLocals := 4, code := jdk_43_method_38_code, exceptionTable := #[], attributes := #[] }
def k19m4 : Method := { name := "lastIndexOfNonWhitespace", desc := "([B)I", sig := { parameters := [(.array .byte)], returnType := some .int }, accessFlags := 9, code := some k19c4 }
def k19c5 : Code := { maxStack := 4, maxLocals := 4, code := jdk_43_method_39_code, exceptionTable := #[], attributes := #[] }
def k19m5 : Method := { name := "strip", desc := "([B)Ljava/lang/String;", sig := { parameters := [(.array .byte)], returnType := some (.object "java/lang/String") }, accessFlags := 9, code := some k19c5 }
def k19c6 : Code := { maxStack := 2, maxLocals := 2, code := jdk_43_method_44_code, exceptionTable := #[], attributes := #[] }
def k19m6 : Method := { name := "getChar", desc := "([BI)C", sig := { parameters := [(.array .byte), .int], returnType := some .char }, accessFlags := 9, code := some k19c6 }
def k19c7 : Code := { maxStack := 6, maxLocals := 3, code := jdk_43_method_47_code, exceptionTable := #[], attributes := #[] }
def k19m7 : Method := { name := "newString", desc := "([BII)Ljava/lang/String;", sig := { parameters := [(.array .byte), .int, .int], returnType := some (.object "java/lang/String") }, accessFlags := 9, code := some k19c7 }
/-- java/lang/StringLatin1 -/
def k19 : Class := { plain "java/lang/StringLatin1" (some 0) with
  accessFlags := 48
  interfaces := #[]
  cf := some (fileOf pool19 14 #[.nestMembers #[390, 221]] #[{ accessFlags := 0, nameIndex := 7, descriptorIndex := 8, attributes := #[] }, { accessFlags := 9, nameIndex := 252, descriptorIndex := 53, attributes := #[] }, { accessFlags := 9, nameIndex := 281, descriptorIndex := 282, attributes := #[] }, { accessFlags := 9, nameIndex := 216, descriptorIndex := 57, attributes := #[] }, { accessFlags := 9, nameIndex := 219, descriptorIndex := 57, attributes := #[] }, { accessFlags := 9, nameIndex := 371, descriptorIndex := 367, attributes := #[] }, { accessFlags := 9, nameIndex := 52, descriptorIndex := 53, attributes := #[] }, { accessFlags := 9, nameIndex := 196, descriptorIndex := 197, attributes := #[] }] 48 4 #[] #[{ accessFlags := 4120, nameIndex := 121, descriptorIndex := 122, attributes := #[] }])
  fields := #[{ name := "$assertionsDisabled", type := .boolean, accessFlags := 4120, slot := 0, constantValue := 0 }]
  methods := #[k19m0, k19m1, k19m2, k19m3, k19m4, k19m5, k19m6, k19m7]
  instanceTypes := #[]
  staticTypes := #[.boolean]
  resolved := Array.replicate 395 none
  statics := none }

def pool20 : Array CpInfo := pool [(2, .class_ 4), (1, u "java/lang/Object"), (0, u "<init>"), (0, u "()V"), (17, .class_ 26), (1, u "jdk/internal/util/Preconditions"), (6, u "checkIndex"), (13, u "checkFromToIndex"), (7, .class_ 56), (0, u "jdk/internal/util/Preconditions$4"), (57, .class_ 115), (0, u "jdk/internal/util/Preconditions$1"), (7, u "SIOOBE_FORMATTER"), (0, u "Ljava/util/function/BiFunction;"), (0, .class_ 126), (0, u "jdk/internal/util/Preconditions$2"), (3, u "AIOOBE_FORMATTER"), (0, .class_ 132), (0, u "jdk/internal/util/Preconditions$3"), (3, u "IOOBE_FORMATTER"), (41, u "(IILjava/util/function/BiFunction;)I"), (4, u "(IIILjava/util/function/BiFunction;)I")] 10

def k20m0 : Method := { name := "<init>", desc := "()V", sig := { parameters := [], returnType := none }, accessFlags := 1, code := none }
def k20c1 : Code := { maxStack := 3, maxLocals := 3, code := jdk_41_method_11_code, exceptionTable := #[], attributes := #[] }
def k20m1 : Method := { name := "checkIndex", desc := "(IILjava/util/function/BiFunction;)I", sig := { parameters := [.int, .int, (.object "java/util/function/BiFunction")], returnType := some .int }, accessFlags := 9, code := some k20c1 }
def k20c2 : Code := { maxStack := 4, maxLocals := 4, code := jdk_41_method_12_code, exceptionTable := #[], attributes := #[] }
def k20m2 : Method := { name := "checkFromToIndex", desc := "(IIILjava/util/function/BiFunction;)I", sig := { parameters := [.int, .int, .int, (.object "java/util/function/BiFunction")], returnType := some .int }, accessFlags := 9, code := some k20c2 }
/-- jdk/internal/util/Preconditions -/
def k20 : Class := { plain "jdk/internal/util/Preconditions" (some 0) with
  accessFlags := 33
  interfaces := #[]
  cf := some (fileOf pool20 24 #[.nestMembers #[55, 131, 125, 114]] #[{ accessFlags := 1, nameIndex := 5, descriptorIndex := 6, attributes := #[] }, { accessFlags := 9, nameIndex := 33, descriptorIndex := 178, attributes := #[] }, { accessFlags := 9, nameIndex := 47, descriptorIndex := 183, attributes := #[] }] 33 2 #[] #[{ accessFlags := 25, nameIndex := 123, descriptorIndex := 124, attributes := #[] }, { accessFlags := 25, nameIndex := 130, descriptorIndex := 124, attributes := #[] }, { accessFlags := 25, nameIndex := 136, descriptorIndex := 124, attributes := #[] }])
  fields := #[{ name := "SIOOBE_FORMATTER", type := (.object "java/util/function/BiFunction"), accessFlags := 25, slot := 0, constantValue := 0 }, { name := "AIOOBE_FORMATTER", type := (.object "java/util/function/BiFunction"), accessFlags := 25, slot := 1, constantValue := 0 }, { name := "IOOBE_FORMATTER", type := (.object "java/util/function/BiFunction"), accessFlags := 25, slot := 2, constantValue := 0 }]
  methods := #[k20m0, k20m1, k20m2]
  instanceTypes := #[]
  staticTypes := #[(.object "java/util/function/BiFunction"), (.object "java/util/function/BiFunction"), (.object "java/util/function/BiFunction")]
  resolved := Array.replicate 194 none
  statics := some 2 }

def pool21 : Array CpInfo := pool [(2, .class_ 4), (1, u "java/lang/Object"), (0, u "<init>"), (0, u "()V"), (7, .class_ 16), (1, u "java/util/Arrays"), (57, .class_ 76), (1, u "java/util/Arrays$NaturalOrder"), (36, .class_ 115), (1, u "java/util/Arrays$LegacyMergeSort"), (1, u "Z"), (21, u "copyOfRange"), (10, .methodref 151 152), (0, .class_ 153), (0, .nameAndType 154 155), (0, u "java/lang/System"), (0, u "arraycopy"), (0, u "(Ljava/lang/Object;ILjava/lang/Object;II)V"), (148, .methodref 305 306), (0, .class_ 307), (0, .nameAndType 308 309), (0, u "java/lang/Math"), (0, u "min"), (0, u "(II)I"), (29, .methodref 14 340), (0, .nameAndType 341 342), (0, u "copyOfRangeByte"), (0, u "([BII)[B"), (0, .methodref 14 344), (0, .nameAndType 345 346), (0, u "checkLength"), (0, u "(II)V"), (28, .class_ 376), (0, u "java/util/Arrays$ArrayList"), (68, u "$assertionsDisabled"), (269, u "MIN_ARRAY_SORT_GRAN"), (0, u "I"), (2, u "INSERTIONSORT_THRESHOLD"), (255, .class_ 976), (0, u "java/util/Arrays$ArrayItr")] 52

def k21m0 : Method := { name := "<init>", desc := "()V", sig := { parameters := [], returnType := none }, accessFlags := 2, code := none }
def k21c1 : Code := { maxStack := 4, maxLocals := 2, code := jdk_65_method_131_code, exceptionTable := #[], attributes := #[] }
def k21m1 : Method := { name := "checkLength", desc := "(II)V", sig := { parameters := [.int, .int], returnType := none }, accessFlags := 10, code := some k21c1 }
def k21c2 : Code := { maxStack := 3, maxLocals := 3, code := jdk_65_method_132_code, exceptionTable := #[], attributes := #[] }
def k21m2 : Method := { name := "copyOfRange", desc := "([BII)[B", sig := { parameters := [(.array .byte), .int, .int], returnType := some (.array .byte) }, accessFlags := 9, code := some k21c2 }
def k21c3 : Code := { maxStack := 6, maxLocals := 5, code := jdk_65_method_133_code, exceptionTable := #[], attributes := #[] }
def k21m3 : Method := { name := "copyOfRangeByte", desc := "([BII)[B", sig := { parameters := [(.array .byte), .int, .int], returnType := some (.array .byte) }, accessFlags := 10, code := some k21c3 }
/-- java/util/Arrays -/
def k21 : Class := { plain "java/util/Arrays" (some 0) with
  accessFlags := 49
  interfaces := #[]
  cf := some (fileOf pool21 14 #[.nestMembers #[975, 375, 113, 74]] #[{ accessFlags := 2, nameIndex := 5, descriptorIndex := 6, attributes := #[] }, { accessFlags := 10, nameIndex := 345, descriptorIndex := 346, attributes := #[] }, { accessFlags := 9, nameIndex := 139, descriptorIndex := 342, attributes := #[] }, { accessFlags := 10, nameIndex := 341, descriptorIndex := 342, attributes := #[] }] 49 2 #[] #[{ accessFlags := 26, nameIndex := 715, descriptorIndex := 716, attributes := #[] }, { accessFlags := 26, nameIndex := 719, descriptorIndex := 716, attributes := #[] }, { accessFlags := 4120, nameIndex := 445, descriptorIndex := 117, attributes := #[] }])
  fields := #[{ name := "MIN_ARRAY_SORT_GRAN", type := .int, accessFlags := 26, slot := 0, constantValue := 0 }, { name := "INSERTIONSORT_THRESHOLD", type := .int, accessFlags := 26, slot := 1, constantValue := 0 }, { name := "$assertionsDisabled", type := .boolean, accessFlags := 4120, slot := 2, constantValue := 0 }]
  methods := #[k21m0, k21m1, k21m2, k21m3]
  instanceTypes := #[]
  staticTypes := #[.int, .int, .boolean]
  resolved := Array.replicate 1029 none
  statics := none }

def pool22 : Array CpInfo := pool [(1, .class_ 2), (0, u "java/lang/Math"), (1, .class_ 6), (1, u "java/lang/Object"), (0, u "<init>"), (0, u "()V"), (89, .class_ 100), (1, u "java/lang/Math$RandomNumberGeneratorHolder"), (71, u "negativeZeroFloatBits"), (0, u "J"), (2, u "negativeZeroDoubleBits"), (21, u "max"), (2, u "min"), (43, u "$assertionsDisabled"), (0, u "Z"), (88, u "(II)I"), (2, u "twoToTheDoubleScaleDown"), (0, u "D"), (4, u "twoToTheDoubleScaleUp"), (9, u "E"), (3, u "PI"), (2, u "TAU"), (2, u "DEGREES_TO_RADIANS"), (0, u "RADIANS_TO_DEGREES")] 94

def k22m0 : Method := { name := "<init>", desc := "()V", sig := { parameters := [], returnType := none }, accessFlags := 2, code := none }
def k22c1 : Code := { maxStack := 2, maxLocals := 2, code := jdk_29_method_65_code, exceptionTable := #[], attributes := #[] }
def k22m1 : Method := { name := "max", desc := "(II)I", sig := { parameters := [.int, .int], returnType := some .int }, accessFlags := 9, code := some k22c1 }
def k22c2 : Code := { maxStack := 2, maxLocals := 2, code := jdk_29_method_69_code, exceptionTable := #[], attributes := #[] }
def k22m2 : Method := { name := "min", desc := "(II)I", sig := { parameters := [.int, .int], returnType := some .int }, accessFlags := 9, code := some k22c2 }
/-- java/lang/Math -/
def k22 : Class := { plain "java/lang/Math" (some 0) with
  accessFlags := 49
  interfaces := #[]
  cf := some (fileOf pool22 1 #[.nestMembers #[98]] #[{ accessFlags := 2, nameIndex := 7, descriptorIndex := 8, attributes := #[] }, { accessFlags := 9, nameIndex := 198, descriptorIndex := 335, attributes := #[] }, { accessFlags := 9, nameIndex := 201, descriptorIndex := 335, attributes := #[] }] 49 4 #[] #[{ accessFlags := 25, nameIndex := 354, descriptorIndex := 339, attributes := #[] }, { accessFlags := 25, nameIndex := 358, descriptorIndex := 339, attributes := #[] }, { accessFlags := 25, nameIndex := 361, descriptorIndex := 339, attributes := #[] }, { accessFlags := 26, nameIndex := 364, descriptorIndex := 339, attributes := #[] }, { accessFlags := 26, nameIndex := 365, descriptorIndex := 339, attributes := #[] }, { accessFlags := 26, nameIndex := 172, descriptorIndex := 173, attributes := #[] }, { accessFlags := 26, nameIndex := 176, descriptorIndex := 173, attributes := #[] }, { accessFlags := 8, nameIndex := 344, descriptorIndex := 339, attributes := #[] }, { accessFlags := 8, nameIndex := 338, descriptorIndex := 339, attributes := #[] }, { accessFlags := 4120, nameIndex := 245, descriptorIndex := 246, attributes := #[] }])
  fields := #[{ name := "E", type := .double, accessFlags := 25, slot := 0, constantValue := 0 }, { name := "PI", type := .double, accessFlags := 25, slot := 1, constantValue := 0 }, { name := "TAU", type := .double, accessFlags := 25, slot := 2, constantValue := 0 }, { name := "DEGREES_TO_RADIANS", type := .double, accessFlags := 26, slot := 3, constantValue := 0 }, { name := "RADIANS_TO_DEGREES", type := .double, accessFlags := 26, slot := 4, constantValue := 0 }, { name := "negativeZeroFloatBits", type := .long, accessFlags := 26, slot := 5, constantValue := 0 }, { name := "negativeZeroDoubleBits", type := .long, accessFlags := 26, slot := 6, constantValue := 0 }, { name := "twoToTheDoubleScaleUp", type := .double, accessFlags := 8, slot := 7, constantValue := 0 }, { name := "twoToTheDoubleScaleDown", type := .double, accessFlags := 8, slot := 8, constantValue := 0 }, { name := "$assertionsDisabled", type := .boolean, accessFlags := 4120, slot := 9, constantValue := 0 }]
  methods := #[k22m0, k22m1, k22m2]
  instanceTypes := #[]
  staticTypes := #[.double, .double, .double, .double, .double, .long, .long, .double, .double, .boolean]
  resolved := Array.replicate 460 none
  statics := none }

def pool23 : Array CpInfo := pool [(2, .class_ 4), (1, u "java/lang/Object"), (0, u "<init>"), (0, u "()V"), (1, .class_ 10), (1, u "java/lang/System"), (0, u "allowSecurityManager"), (0, u "I"), (16, u "cons"), (0, u "Ljava/io/Console;"), (77, .class_ 110), (1, u "java/lang/System$CallersHolder"), (43, u "initialErrStream"), (0, u "Ljava/io/PrintStream;"), (19, u "security"), (0, u "Ljava/lang/SecurityManager;"), (31, .class_ 209), (0, u "java/lang/System$1"), (7, u "props"), (0, u "Ljava/util/Properties;"), (2, u "lineSeparator"), (0, u "Ljava/lang/String;"), (96, .class_ 321), (1, u "java/lang/System$LoggerFinder"), (5, .class_ 328), (0, u "java/lang/System$Logger"), (67, u "err"), (2, u "out"), (91, u "notSupportedJnuEncoding"), (15, u "in"), (17, u "initialIn"), (0, u "Ljava/io/InputStream;"), (35, u "bootLayer"), (0, u "Ljava/lang/ModuleLayer;"), (99, .class_ 664), (0, u "java/lang/System$2"), (9, u "NEVER"), (2, u "MAYBE"), (49, u "arraycopy"), (0, u "(Ljava/lang/Object;ILjava/lang/Object;II)V"), (72, .class_ 802), (0, u "java/lang/System$Logger$Level")] 31

def k23m0 : Method := { name := "<init>", desc := "()V", sig := { parameters := [], returnType := none }, accessFlags := 2, code := none }
def k23m1 : Method := { name := "arraycopy", desc := "(Ljava/lang/Object;ILjava/lang/Object;II)V", sig := { parameters := [(.object "java/lang/Object"), .int, (.object "java/lang/Object"), .int, .int], returnType := none }, accessFlags := 265, code := none }
/-- java/lang/System -/
def k23 : Class := { plain "java/lang/System" (some 0) with
  accessFlags := 49
  interfaces := #[]
  cf := some (fileOf pool23 8 #[.nestMembers #[319, 327, 801, 108, 663, 208]] #[{ accessFlags := 2, nameIndex := 5, descriptorIndex := 6, attributes := #[] }, { accessFlags := 265, nameIndex := 727, descriptorIndex := 728, attributes := #[] }] 49 2 #[] #[{ accessFlags := 25, nameIndex := 507, descriptorIndex := 526, attributes := #[] }, { accessFlags := 25, nameIndex := 399, descriptorIndex := 155, attributes := #[] }, { accessFlags := 25, nameIndex := 396, descriptorIndex := 155, attributes := #[] }, { accessFlags := 10, nameIndex := 525, descriptorIndex := 526, attributes := #[] }, { accessFlags := 26, nameIndex := 674, descriptorIndex := 12, attributes := #[] }, { accessFlags := 26, nameIndex := 677, descriptorIndex := 12, attributes := #[] }, { accessFlags := 10, nameIndex := 11, descriptorIndex := 12, attributes := #[] }, { accessFlags := 74, nameIndex := 175, descriptorIndex := 176, attributes := #[] }, { accessFlags := 10, nameIndex := 491, descriptorIndex := 222, attributes := #[] }, { accessFlags := 74, nameIndex := 29, descriptorIndex := 30, attributes := #[] }, { accessFlags := 74, nameIndex := 154, descriptorIndex := 155, attributes := #[] }, { accessFlags := 10, nameIndex := 217, descriptorIndex := 218, attributes := #[] }, { accessFlags := 10, nameIndex := 221, descriptorIndex := 222, attributes := #[] }, { accessFlags := 8, nameIndex := 562, descriptorIndex := 563, attributes := #[] }])
  fields := #[{ name := "in", type := (.object "java/io/InputStream"), accessFlags := 25, slot := 0, constantValue := 0 }, { name := "out", type := (.object "java/io/PrintStream"), accessFlags := 25, slot := 1, constantValue := 0 }, { name := "err", type := (.object "java/io/PrintStream"), accessFlags := 25, slot := 2, constantValue := 0 }, { name := "initialIn", type := (.object "java/io/InputStream"), accessFlags := 10, slot := 3, constantValue := 0 }, { name := "NEVER", type := .int, accessFlags := 26, slot := 4, constantValue := 0 }, { name := "MAYBE", type := .int, accessFlags := 26, slot := 5, constantValue := 0 }, { name := "allowSecurityManager", type := .int, accessFlags := 10, slot := 6, constantValue := 0 }, { name := "security", type := (.object "java/lang/SecurityManager"), accessFlags := 74, slot := 7, constantValue := 0 }, { name := "notSupportedJnuEncoding", type := (.object "java/lang/String"), accessFlags := 10, slot := 8, constantValue := 0 }, { name := "cons", type := (.object "java/io/Console"), accessFlags := 74, slot := 9, constantValue := 0 }, { name := "initialErrStream", type := (.object "java/io/PrintStream"), accessFlags := 74, slot := 10, constantValue := 0 }, { name := "props", type := (.object "java/util/Properties"), accessFlags := 10, slot := 11, constantValue := 0 }, { name := "lineSeparator", type := (.object "java/lang/String"), accessFlags := 10, slot := 12, constantValue := 0 }, { name := "bootLayer", type := (.object "java/lang/ModuleLayer"), accessFlags := 8, slot := 13, constantValue := 0 }]
  methods := #[k23m0, k23m1]
  instanceTypes := #[]
  staticTypes := #[(.object "java/io/InputStream"), (.object "java/io/PrintStream"), (.object "java/io/PrintStream"), (.object "java/io/InputStream"), .int, .int, .int, (.object "java/lang/SecurityManager"), (.object "java/lang/String"), (.object "java/io/Console"), (.object "java/io/PrintStream"), (.object "java/util/Properties"), (.object "java/lang/String"), (.object "java/lang/ModuleLayer")]
  resolved := Array.replicate 834 none
  statics := none }

def pool24 : Array CpInfo := pool [(2, .class_ 4), (1, u "java/lang/Object"), (0, u "<init>"), (0, u "()V"), (1, .class_ 10), (1, u "java/lang/CharacterData")] 75

def k24m0 : Method := { name := "<init>", desc := "()V", sig := { parameters := [], returnType := none }, accessFlags := 0, code := none }
/-- java/lang/CharacterData -/
def k24 : Class := { plain "java/lang/CharacterData" (some 0) with
  accessFlags := 1056
  interfaces := #[]
  cf := some (fileOf pool24 8 #[] #[{ accessFlags := 0, nameIndex := 5, descriptorIndex := 6, attributes := #[] }] 1056 2 #[] #[])
  fields := #[]
  methods := #[k24m0]
  instanceTypes := #[]
  staticTypes := #[]
  resolved := Array.replicate 86 none
  statics := none }

def pool25 : Array CpInfo := pool [(1, .fieldref 2 3), (0, .class_ 4), (0, .nameAndType 5 6), (0, u "java/lang/CharacterDataLatin1"), (0, u "A"), (0, u "[I"), (2, u "B"), (0, u "[C"), (3, u "(I)I"), (0, .methodref 2 16), (0, .nameAndType 17 14), (0, u "getProperties"), (3, u "(I)Z"), (5, u "DIGITS"), (0, u "[B"), (8, u "sharpsMap"), (1, .class_ 41), (1, u "java/lang/CharacterData"), (0, u "<init>"), (0, u "()V"), (3, u "instance"), (0, u "Ljava/lang/CharacterDataLatin1;"), (78, u "isWhitespace")] 13

def k25c0 : Code := { maxStack := 2, maxLocals := 4, code := jdk_116_method_1_code, exceptionTable := #[], attributes := #[] }
def k25m0 : Method := { name := "getProperties", desc := "(I)I", sig := { parameters := [.int], returnType := some .int }, accessFlags := 0, code := some k25c0 }
def k25c1 : Code := { maxStack := 2, maxLocals := 3, code := jdk_116_method_26_code, exceptionTable := #[], attributes := #[] }
def k25m1 : Method := { name := "isWhitespace", desc := "(I)Z", sig := { parameters := [.int], returnType := some .boolean }, accessFlags := 0, code := some k25c1 }
def k25m2 : Method := { name := "<init>", desc := "()V", sig := { parameters := [], returnType := none }, accessFlags := 2, code := none }
/-- java/lang/CharacterDataLatin1 -/
def k25 : Class := { plain "java/lang/CharacterDataLatin1" (some 24) with
  accessFlags := 32
  interfaces := #[]
  cf := some (fileOf pool25 2 #[] #[{ accessFlags := 0, nameIndex := 17, descriptorIndex := 14, attributes := #[] }, { accessFlags := 0, nameIndex := 127, descriptorIndex := 21, attributes := #[] }, { accessFlags := 2, nameIndex := 42, descriptorIndex := 43, attributes := #[] }] 32 39 #[] #[{ accessFlags := 26, nameIndex := 27, descriptorIndex := 28, attributes := #[] }, { accessFlags := 8, nameIndex := 37, descriptorIndex := 10, attributes := #[] }, { accessFlags := 24, nameIndex := 47, descriptorIndex := 48, attributes := #[] }, { accessFlags := 24, nameIndex := 5, descriptorIndex := 6, attributes := #[] }, { accessFlags := 24, nameIndex := 9, descriptorIndex := 10, attributes := #[] }])
  fields := #[{ name := "DIGITS", type := (.array .byte), accessFlags := 26, slot := 0, constantValue := 0 }, { name := "sharpsMap", type := (.array .char), accessFlags := 8, slot := 1, constantValue := 0 }, { name := "instance", type := (.object "java/lang/CharacterDataLatin1"), accessFlags := 24, slot := 2, constantValue := 0 }, { name := "A", type := (.array .int), accessFlags := 24, slot := 3, constantValue := 0 }, { name := "B", type := (.array .char), accessFlags := 24, slot := 4, constantValue := 0 }]
  methods := #[k25m0, k25m1, k25m2]
  instanceTypes := #[]
  staticTypes := #[(.array .byte), (.array .char), (.object "java/lang/CharacterDataLatin1"), (.array .int), (.array .char)]
  resolved := Array.replicate 141 none
  statics := some 3 }

def pool26 : Array CpInfo := pool [(2, .class_ 4), (1, u "java/lang/Object"), (0, u "<init>"), (0, u "()V"), (35, .class_ 44), (1, u "java/util/Objects"), (60, .methodref 106 107), (0, .class_ 108), (0, .nameAndType 109 110), (0, u "jdk/internal/util/Preconditions"), (0, u "checkIndex"), (0, u "(IILjava/util/function/BiFunction;)I"), (60, u "(II)I")] 12

def k26m0 : Method := { name := "<init>", desc := "()V", sig := { parameters := [], returnType := none }, accessFlags := 2, code := none }
def k26c1 : Code := { maxStack := 3, maxLocals := 2, code := jdk_31_method_17_code, exceptionTable := #[], attributes := #[] }
def k26m1 : Method := { name := "checkIndex", desc := "(II)I", sig := { parameters := [.int, .int], returnType := some .int }, accessFlags := 9, code := some k26c1 }
/-- java/util/Objects -/
def k26 : Class := { plain "java/util/Objects" (some 0) with
  accessFlags := 49
  interfaces := #[]
  cf := some (fileOf pool26 42 #[] #[{ accessFlags := 2, nameIndex := 5, descriptorIndex := 6, attributes := #[] }, { accessFlags := 9, nameIndex := 109, descriptorIndex := 171, attributes := #[] }] 49 2 #[] #[])
  fields := #[]
  methods := #[k26m0, k26m1]
  instanceTypes := #[]
  staticTypes := #[]
  resolved := Array.replicate 184 none
  statics := none }

def pool27 : Array CpInfo := pool [(9, u "<init>"), (6, .class_ 18), (1, u "java/lang/Object"), (0, u "()V"), (1, .class_ 23), (1, u "jdk/internal/util/ArraysSupport"), (0, u "LOG2_ARRAY_LONG_INDEX_SCALE"), (0, u "I"), (2, u "U"), (0, u "Ljdk/internal/misc/Unsafe;"), (8, u "BIG_ENDIAN"), (0, u "Z"), (8, u "LOG2_BYTE_BIT_SIZE"), (4, u "LOG2_ARRAY_INT_INDEX_SCALE"), (54, u "JLA"), (0, u "Ljdk/internal/access/JavaLangAccess;"), (11, u "LOG2_ARRAY_BOOLEAN_INDEX_SCALE"), (9, u "LOG2_ARRAY_BYTE_INDEX_SCALE"), (5, u "LOG2_ARRAY_CHAR_INDEX_SCALE"), (5, u "LOG2_ARRAY_SHORT_INDEX_SCALE"), (18, u "LOG2_ARRAY_FLOAT_INDEX_SCALE"), (24, u "LOG2_ARRAY_DOUBLE_INDEX_SCALE"), (89, u "T_BOOLEAN"), (2, u "T_CHAR"), (1, u "T_FLOAT"), (1, u "T_DOUBLE"), (1, u "T_BYTE"), (1, u "T_SHORT"), (1, u "T_INT"), (1, u "T_LONG"), (1, u "SOFT_MAX_ARRAY_LENGTH")] 83

def k27m0 : Method := { name := "<init>", desc := "()V", sig := { parameters := [], returnType := none }, accessFlags := 2, code := none }
/-- jdk/internal/util/ArraysSupport -/
def k27 : Class := { plain "jdk/internal/util/ArraysSupport" (some 0) with
  accessFlags := 33
  interfaces := #[]
  cf := some (fileOf pool27 21 #[] #[{ accessFlags := 2, nameIndex := 9, descriptorIndex := 19, attributes := #[] }] 33 16 #[] #[{ accessFlags := 24, nameIndex := 28, descriptorIndex := 29, attributes := #[] }, { accessFlags := 26, nameIndex := 38, descriptorIndex := 39, attributes := #[] }, { accessFlags := 25, nameIndex := 121, descriptorIndex := 25, attributes := #[] }, { accessFlags := 25, nameIndex := 131, descriptorIndex := 25, attributes := #[] }, { accessFlags := 25, nameIndex := 137, descriptorIndex := 25, attributes := #[] }, { accessFlags := 25, nameIndex := 143, descriptorIndex := 25, attributes := #[] }, { accessFlags := 25, nameIndex := 53, descriptorIndex := 25, attributes := #[] }, { accessFlags := 25, nameIndex := 24, descriptorIndex := 25, attributes := #[] }, { accessFlags := 25, nameIndex := 162, descriptorIndex := 25, attributes := #[] }, { accessFlags := 25, nameIndex := 187, descriptorIndex := 25, attributes := #[] }, { accessFlags := 26, nameIndex := 48, descriptorIndex := 25, attributes := #[] }, { accessFlags := 25, nameIndex := 277, descriptorIndex := 25, attributes := #[] }, { accessFlags := 25, nameIndex := 280, descriptorIndex := 25, attributes := #[] }, { accessFlags := 25, nameIndex := 282, descriptorIndex := 25, attributes := #[] }, { accessFlags := 25, nameIndex := 284, descriptorIndex := 25, attributes := #[] }, { accessFlags := 25, nameIndex := 286, descriptorIndex := 25, attributes := #[] }, { accessFlags := 25, nameIndex := 288, descriptorIndex := 25, attributes := #[] }, { accessFlags := 25, nameIndex := 290, descriptorIndex := 25, attributes := #[] }, { accessFlags := 25, nameIndex := 292, descriptorIndex := 25, attributes := #[] }, { accessFlags := 26, nameIndex := 108, descriptorIndex := 109, attributes := #[] }, { accessFlags := 25, nameIndex := 294, descriptorIndex := 25, attributes := #[] }])
  fields := #[{ name := "U", type := (.object "jdk/internal/misc/Unsafe"), accessFlags := 24, slot := 0, constantValue := 0 }, { name := "BIG_ENDIAN", type := .boolean, accessFlags := 26, slot := 1, constantValue := 0 }, { name := "LOG2_ARRAY_BOOLEAN_INDEX_SCALE", type := .int, accessFlags := 25, slot := 2, constantValue := 0 }, { name := "LOG2_ARRAY_BYTE_INDEX_SCALE", type := .int, accessFlags := 25, slot := 3, constantValue := 0 }, { name := "LOG2_ARRAY_CHAR_INDEX_SCALE", type := .int, accessFlags := 25, slot := 4, constantValue := 0 }, { name := "LOG2_ARRAY_SHORT_INDEX_SCALE", type := .int, accessFlags := 25, slot := 5, constantValue := 0 }, { name := "LOG2_ARRAY_INT_INDEX_SCALE", type := .int, accessFlags := 25, slot := 6, constantValue := 0 }, { name := "LOG2_ARRAY_LONG_INDEX_SCALE", type := .int, accessFlags := 25, slot := 7, constantValue := 0 }, { name := "LOG2_ARRAY_FLOAT_INDEX_SCALE", type := .int, accessFlags := 25, slot := 8, constantValue := 0 }, { name := "LOG2_ARRAY_DOUBLE_INDEX_SCALE", type := .int, accessFlags := 25, slot := 9, constantValue := 0 }, { name := "LOG2_BYTE_BIT_SIZE", type := .int, accessFlags := 26, slot := 10, constantValue := 0 }, { name := "T_BOOLEAN", type := .int, accessFlags := 25, slot := 11, constantValue := 0 }, { name := "T_CHAR", type := .int, accessFlags := 25, slot := 12, constantValue := 0 }, { name := "T_FLOAT", type := .int, accessFlags := 25, slot := 13, constantValue := 0 }, { name := "T_DOUBLE", type := .int, accessFlags := 25, slot := 14, constantValue := 0 }, { name := "T_BYTE", type := .int, accessFlags := 25, slot := 15, constantValue := 0 }, { name := "T_SHORT", type := .int, accessFlags := 25, slot := 16, constantValue := 0 }, { name := "T_INT", type := .int, accessFlags := 25, slot := 17, constantValue := 0 }, { name := "T_LONG", type := .int, accessFlags := 25, slot := 18, constantValue := 0 }, { name := "JLA", type := (.object "jdk/internal/access/JavaLangAccess"), accessFlags := 26, slot := 19, constantValue := 0 }, { name := "SOFT_MAX_ARRAY_LENGTH", type := .int, accessFlags := 25, slot := 20, constantValue := 0 }]
  methods := #[k27m0]
  instanceTypes := #[]
  staticTypes := #[(.object "jdk/internal/misc/Unsafe"), .boolean, .int, .int, .int, .int, .int, .int, .int, .int, .int, .int, .int, .int, .int, .int, .int, .int, .int, (.object "jdk/internal/access/JavaLangAccess"), .int]
  resolved := Array.replicate 378 none
  statics := some 4 }

/-- the primitive byte -/
def k28 : Class := { plain "byte" none with kind := .primitive 'B', accessFlags := 0x411 }
/-- [B -/
def k29 : Class := { plain "[B" (some 0) with kind := .array 28 .byte, interfaces := #[17, 2], accessFlags := 1041 }

/-- the primitive char -/
def k30 : Class := { plain "char" none with kind := .primitive 'C', accessFlags := 0x411 }
/-- [C -/
def k31 : Class := { plain "[C" (some 0) with kind := .array 30 .char, interfaces := #[17, 2], accessFlags := 1041 }

/-- the primitive int -/
def k32 : Class := { plain "int" none with kind := .primitive 'I', accessFlags := 0x411 }
/-- [I -/
def k33 : Class := { plain "[I" (some 0) with kind := .array 32 .int, interfaces := #[17, 2], accessFlags := 1041 }

/-- [Ljava/lang/Object; -/
def k34 : Class := { plain "[Ljava/lang/Object;" (some 0) with kind := .array 0 (.object "java/lang/Object"), interfaces := #[17, 2], accessFlags := 1041 }

def heap : Heap := #[{ cls := 7, slots := #[.long 0, .int 1, .null, .int 0, .null, .int 0, .int 0], vm := .statics 7 },
  { cls := 18, slots := #[.long 0, .int 0, .ref 5, .ref 6], vm := .statics 18 },
  { cls := 20, slots := #[.null, .null, .null], vm := .statics 20 },
  { cls := 25, slots := #[.null, .null, .ref 7, .ref 8, .null], vm := .statics 25 },
  { cls := 27, slots := #[.null, .int 0, .int 0, .int 0, .int 0, .int 0, .int 0, .int 0, .int 0, .int 0, .int 0, .int 0, .int 0, .int 0, .int 0, .int 0, .int 0, .int 0, .int 0, .null, .int 2147483639], vm := .statics 27 },
  { cls := 34, slots := #[], vm := .none },
  { cls := 34, slots := #[], vm := .none },
  { cls := 25, slots := #[], vm := .none },
  { cls := 33, slots := #[.int 1207963663, .int 1207963663, .int 1207963663, .int 1207963663, .int 1207963663, .int 1207963663, .int 1207963663, .int 1207963663, .int 1207963663, .int 1476411407, .int 1342193679, .int 1476411407, .int 1610629135, .int 1342193679, .int 1207963663, .int 1207963663, .int 1207963663, .int 1207963663, .int 1207963663, .int 1207963663, .int 1207963663, .int 1207963663, .int 1207963663, .int 1207963663, .int 1207963663, .int 1207963663, .int 1207963663, .int 1207963663, .int 1342193679, .int 1342193679, .int 1342193679, .int 1476411407, .int 1610629132, .int 1744830488, .int 1744830488, .int 671088664, .int 671113242, .int 671088664, .int 1744830488, .int 1744830488, .int (-402653163), .int (-402653162), .int 1744830488, .int 536870937, .int 939524120, .int 536870932, .int 939524120, .int 939524120, .int 402667017, .int 402667017, .int 402667017, .int 402667017, .int 402667017, .int 402667017, .int 402667017, .int 402667017, .int 402667017, .int 402667017, .int 939524120, .int 1744830488, .int (-402653159), .int 1744830489, .int (-402653159), .int 1744830488, .int 1744830488, .int 8552417, .int 8552417, .int 8552417, .int 8552417, .int 8552417, .int 8552417, .int 8552417, .int 8552417, .int 8552417, .int 8552417, .int 8552417, .int 8552417, .int 8552417, .int 8552417, .int 8552417, .int 8552417, .int 8552417, .int 8552417, .int 8552417, .int 8552417, .int 8552417, .int 8552417, .int 8552417, .int 8552417, .int 8552417, .int 8552417, .int (-402653163), .int 1744830488, .int (-402653162), .int 1744830491, .int 1744850967, .int 1744830491, .int 8486882, .int 8486882, .int 8486882, .int 8486882, .int 8486882, .int 8486882, .int 8486882, .int 8486882, .int 8486882, .int 8486882, .int 8486882, .int 8486882, .int 8486882, .int 8486882, .int 8486882, .int 8486882, .int 8486882, .int 8486882, .int 8486882, .int 8486882, .int 8486882, .int 8486882, .int 8486882, .int 8486882, .int 8486882, .int 8486882, .int (-402653163), .int 1744830489, .int (-402653162), .int 1744830489, .int 1207963663, .int 1207963663, .int 1207963663, .int 1207963663, .int 1207963663, .int 1207963663, .int 1342181391, .int 1207963663, .int 1207963663, .int 1207963663, .int 1207963663, .int 1207963663, .int 1207963663, .int 1207963663, .int 1207963663, .int 1207963663, .int 1207963663, .int 1207963663, .int 1207963663, .int 1207963663, .int 1207963663, .int 1207963663, .int 1207963663, .int 1207963663, .int 1207963663, .int 1207963663, .int 1207963663, .int 1207963663, .int 1207963663, .int 1207963663, .int 1207963663, .int 1207963663, .int 1207963663, .int 939524108, .int 1744830488, .int 671113242, .int 671113242, .int 671113242, .int 671113242, .int 1744830492, .int 1744830488, .int 1744830491, .int 1744830492, .int 28677, .int (-402653155), .int 1744830489, .int 1207963664, .int 1744830492, .int 1744830491, .int 671088668, .int 671088665, .int 402654731, .int 402654731, .int 1744830491, .int 134049794, .int 1744830488, .int 1744830488, .int 1744830491, .int 402654475, .int 28677, .int (-402653154), .int 1744832523, .int 1744832523, .int 1744832523, .int 1744830488, .int 8548353, .int 8548353, .int 8548353, .int 8548353, .int 8548353, .int 8548353, .int 8548353, .int 8548353, .int 8548353, .int 8548353, .int 8548353, .int 8548353, .int 8548353, .int 8548353, .int 8548353, .int 8548353, .int 8548353, .int 8548353, .int 8548353, .int 8548353, .int 8548353, .int 8548353, .int 8548353, .int 1744830489, .int 8548353, .int 8548353, .int 8548353, .int 8548353, .int 8548353, .int 8548353, .int 8548353, .int 134049794, .int 8482818, .int 8482818, .int 8482818, .int 8482818, .int 8482818, .int 8482818, .int 8482818, .int 8482818, .int 8482818, .int 8482818, .int 8482818, .int 8482818, .int 8482818, .int 8482818, .int 8482818, .int 8482818, .int 8482818, .int 8482818, .int 8482818, .int 8482818, .int 8482818, .int 8482818, .int 8482818, .int 1744830489, .int 8482818, .int 8482818, .int 8482818, .int 8482818, .int 8482818, .int 8482818, .int 8482818, .int 102592514], vm := .none }]
def classes : Array Class := #[k0, k1, k2, k3, k4, k5, k6, k7, k8, k9, k10, k11, k12, k13, k14, k15, k16, k17, k18, k19, k20, k21, k22, k23, k24, k25, k26, k27, k28, k29, k30, k31, k32, k33, k34]
def interned : List (Array UInt16 × Addr) := []
def slotsUsed : Nat := 296
def theMethod : MethodId := ⟨1, 4⟩
def args0 : Array Value := #[.int 0, .int 0, .int 0, .int 0, .int 0, .int 0]
def aboutOver (below : List Frame) : State where
  vm := { classes := classes, interned := interned.toArray }
  heap := heap
  slotsUsed := slotsUsed
  threads := #[{ frames := .invoking theMethod args0 :: below }]
def below0 : List Frame := [.native { method := ⟨0, 0⟩, args := #[] }]
def about1 : State := aboutOver below0
def p0 : Program := .bare "" "" ""
def e0 : Env := launch0.env 0 0 0
theorem w_frames : about1.frames = Frame.invoking theMethod args0 :: below0 := rfl
set_option maxRecDepth 65536 in
theorem w_args : argsFit about1.vm theMethod args0 = true := by decide +kernel
set_option maxRecDepth 65536 in
theorem w_heap : heapFits about1 = true := by decide +kernel
set_option maxRecDepth 65536 in
theorem w_runnable : about1.curStatus? = some .runnable := by decide +kernel
set_option maxRecDepth 65536 in
theorem w_alone : about1.alone = true := by decide +kernel
set_option maxRecDepth 65536 in
theorem w_named : about1.methodNamed? x = some theMethod := by decide +kernel
set_option maxRecDepth 65536 in
theorem w_hears : about1.hears theMethod below0 = true := by decide +kernel
set_option maxRecDepth 65536 in
theorem w_ripe : about1.ripe theMethod args0 below0 = true := by decide +kernel
theorem w_running : about1.status = .running := rfl
set_option maxRecDepth 65536 in
theorem w_room : about1.hasRoom e0.platform room_1 = true :=
  launch0.hasRoom_least _ room_1 (by decide +kernel) (by decide +kernel) (by decide +kernel) (by decide +kernel) (by decide +kernel) (by decide +kernel)
theorem allAtoms_all (ts : List Jvm.Cond) (a : Array Jvm.Value) (st : Jvm.State) : (allAtoms ts).before a st = ts.all (fun c => c.before a st) := by
  induction ts with
  | nil => rfl
  | cons c t ih =>
    show (Jvm.Cond.and c (allAtoms t)).before a st = _
    rw [Jvm.Cond.before_and, ih, List.all_cons]
def words1 : List Jvm.Cond := Jvm.Cond.code x code maxLocals ret :: tables_1
/-- a 'code' word, met by the world's own term for the bytes: nothing is compared byte by byte -/
theorem code_word {y : MethodName} {bytes : ByteArray} {mx : Nat} {rt : Option FieldType} {a : Array Value} {s : State} {m : MethodId} {meth : Method} {c : Code} (h1 : s.methodNamed? y = some m) (h2 : s.vm.method? m = some meth) (h3 : meth.code = some c) (h4 : c.code = bytes)
    (h5 : (c.maxLocals == mx && c.exceptionTable.isEmpty && decide (c.maxStack ≤ mostOperands) && decide (meth.sig.returnType = rt) && !meth.locks && decide (parseMethodDescriptor y.desc = some meth.sig)) = true) : (Jvm.Cond.code y bytes mx rt).before a s = true := by
  simp only [Bool.and_eq_true, beq_iff_eq, Bool.not_eq_true', decide_eq_true_eq] at h5
  obtain ⟨⟨⟨⟨⟨g1, g2⟩, g3⟩, g4⟩, g5⟩, g6⟩ := h5
  simp [Cond.before, Cond.holds, Cond.value, h1, h2, h3, h4, g1, g2, g3, g4, g5, g6]
def isCode : Jvm.Cond → Bool
  | .code _ _ _ _ => true
  | _ => false
theorem all_split {L : List Jvm.Cond} {P : Jvm.Cond → Bool} (h1 : L.all (fun c => isCode c || P c) = true) (h2 : ∀ c ∈ L.filter isCode, P c = true) : L.all P = true := by
  refine List.all_eq_true.mpr fun c hc => ?_
  have h := List.all_eq_true.mp h1 c hc
  rcases Bool.eq_false_or_eq_true (isCode c) with hi | hi
  · exact h2 c (List.mem_filter.mpr ⟨hc, hi⟩)
  · simpa [hi] using h
set_option maxRecDepth 65536 in
theorem w_c0 : (Jvm.Cond.code x code maxLocals ret).before args0 about1 = true := code_word (m := ⟨1, 4⟩) (meth := k1m4) (c := k1c4) (by decide +kernel) rfl rfl rfl (by decide +kernel)
set_option maxRecDepth 65536 in
theorem w_c1 : (Jvm.Cond.code ({ cls := "com/example/wheal/wheal/FieldValuesSplitPinLaw", name := "ws", desc := "(I)C" } : Jvm.MethodName) method_2_code (1 : Nat) (Option.some Jvm.ClassFile.FieldType.char)).before args0 about1 = true := code_word (m := ⟨1, 1⟩) (meth := k1m1) (c := k1c1) (by decide +kernel) rfl rfl rfl (by decide +kernel)
set_option maxRecDepth 65536 in
theorem w_c2 : (Jvm.Cond.code ({ cls := "com/example/wheal/wheal/FieldValuesSplitPinLaw", name := "core", desc := "(ICC)[C" } : Jvm.MethodName) method_3_code (3 : Nat) (Option.some (Jvm.ClassFile.FieldType.array Jvm.ClassFile.FieldType.char))).before args0 about1 = true := code_word (m := ⟨1, 2⟩) (meth := k1m2) (c := k1c2) (by decide +kernel) rfl rfl rfl (by decide +kernel)
set_option maxRecDepth 65536 in
theorem w_c3 : (Jvm.Cond.code ({ cls := "com/example/wheal/wheal/FieldValuesSplitPinLaw", name := "place", desc := "([CI[CIC)V" } : Jvm.MethodName) method_4_code (5 : Nat) (Option.none : Option Jvm.ClassFile.FieldType)).before args0 about1 = true := code_word (m := ⟨1, 3⟩) (meth := k1m3) (c := k1c3) (by decide +kernel) rfl rfl rfl (by decide +kernel)
set_option maxRecDepth 65536 in
theorem w_c4 : (Jvm.Cond.code ({ cls := "java/lang/String", name := "<init>", desc := "([C)V" } : Jvm.MethodName) jdk_42_method_3_code (2 : Nat) (Option.none : Option Jvm.ClassFile.FieldType)).before args0 about1 = true := code_word (m := ⟨7, 1⟩) (meth := k7m1) (c := k7c1) (by decide +kernel) rfl rfl rfl (by decide +kernel)
set_option maxRecDepth 65536 in
theorem w_c5 : (Jvm.Cond.code ({ cls := "java/lang/String", name := "<init>", desc := "([CIILjava/lang/Void;)V" } : Jvm.MethodName) jdk_42_method_149_code (6 : Nat) (Option.none : Option Jvm.ClassFile.FieldType)).before args0 about1 = true := code_word (m := ⟨7, 8⟩) (meth := k7m8) (c := k7c8) (by decide +kernel) rfl rfl rfl (by decide +kernel)
set_option maxRecDepth 65536 in
theorem w_c6 : (Jvm.Cond.code ({ cls := "java/lang/Object", name := "<init>", desc := "()V" } : Jvm.MethodName) object_method_1_code (1 : Nat) (Option.none : Option Jvm.ClassFile.FieldType)).before args0 about1 = true := code_word (m := ⟨0, 0⟩) (meth := k0m0) (c := k0c0) (by decide +kernel) rfl rfl rfl (by decide +kernel)
set_option maxRecDepth 65536 in
theorem w_c7 : (Jvm.Cond.code ({ cls := "java/lang/StringUTF16", name := "compress", desc := "([CII)[B" } : Jvm.MethodName) jdk_52_method_16_code (6 : Nat) (Option.some (Jvm.ClassFile.FieldType.array Jvm.ClassFile.FieldType.byte))).before args0 about1 = true := code_word (m := ⟨8, 2⟩) (meth := k8m2) (c := k8c2) (by decide +kernel) rfl rfl rfl (by decide +kernel)
set_option maxRecDepth 65536 in
theorem w_c8 : (Jvm.Cond.code ({ cls := "java/lang/StringUTF16", name := "compress", desc := "([CI[BII)I" } : Jvm.MethodName) jdk_52_method_21_code (7 : Nat) (Option.some Jvm.ClassFile.FieldType.int)).before args0 about1 = true := code_word (m := ⟨8, 3⟩) (meth := k8m3) (c := k8c3) (by decide +kernel) rfl rfl rfl (by decide +kernel)
set_option maxRecDepth 65536 in
theorem w_c9 : (Jvm.Cond.code ({ cls := "java/lang/StringUTF16", name := "coderFromArrayLen", desc := "([BI)B" } : Jvm.MethodName) jdk_52_method_15_code (2 : Nat) (Option.some Jvm.ClassFile.FieldType.byte)).before args0 about1 = true := code_word (m := ⟨8, 1⟩) (meth := k8m1) (c := k8c1) (by decide +kernel) rfl rfl rfl (by decide +kernel)
set_option maxRecDepth 65536 in
theorem w_c10 : (Jvm.Cond.code ({ cls := "com/example/wheal/wheal/FieldValues", name := "split", desc := "(Ljava/lang/String;C)Ljava/util/List;" } : Jvm.MethodName) prog_1_method_2_code (8 : Nat) (Option.some (Jvm.ClassFile.FieldType.object "java/util/List"))).before args0 about1 = true := code_word (m := ⟨9, 1⟩) (meth := k9m1) (c := k9c1) (by decide +kernel) rfl rfl rfl (by decide +kernel)
set_option maxRecDepth 65536 in
theorem w_c11 : (Jvm.Cond.code ({ cls := "java/util/ArrayList", name := "<init>", desc := "()V" } : Jvm.MethodName) jdk_38_method_2_code (1 : Nat) (Option.none : Option Jvm.ClassFile.FieldType)).before args0 about1 = true := code_word (m := ⟨18, 0⟩) (meth := k18m0) (c := k18c0) (by decide +kernel) rfl rfl rfl (by decide +kernel)
set_option maxRecDepth 65536 in
theorem w_c12 : (Jvm.Cond.code ({ cls := "java/util/AbstractList", name := "<init>", desc := "()V" } : Jvm.MethodName) jdk_39_method_1_code (1 : Nat) (Option.none : Option Jvm.ClassFile.FieldType)).before args0 about1 = true := code_word (m := ⟨15, 0⟩) (meth := k15m0) (c := k15c0) (by decide +kernel) rfl rfl rfl (by decide +kernel)
set_option maxRecDepth 65536 in
theorem w_c13 : (Jvm.Cond.code ({ cls := "java/util/AbstractCollection", name := "<init>", desc := "()V" } : Jvm.MethodName) jdk_22_method_1_code (1 : Nat) (Option.none : Option Jvm.ClassFile.FieldType)).before args0 about1 = true := code_word (m := ⟨12, 0⟩) (meth := k12m0) (c := k12c0) (by decide +kernel) rfl rfl rfl (by decide +kernel)
set_option maxRecDepth 65536 in
theorem w_c14 : (Jvm.Cond.code ({ cls := "java/lang/String", name := "length", desc := "()I" } : Jvm.MethodName) jdk_42_method_54_code (1 : Nat) (Option.some Jvm.ClassFile.FieldType.int)).before args0 about1 = true := code_word (m := ⟨7, 2⟩) (meth := k7m2) (c := k7c2) (by decide +kernel) rfl rfl rfl (by decide +kernel)
set_option maxRecDepth 65536 in
theorem w_c15 : (Jvm.Cond.code ({ cls := "java/lang/String", name := "coder", desc := "()B" } : Jvm.MethodName) jdk_42_method_152_code (1 : Nat) (Option.some Jvm.ClassFile.FieldType.byte)).before args0 about1 = true := code_word (m := ⟨7, 10⟩) (meth := k7m10) (c := k7c10) (by decide +kernel) rfl rfl rfl (by decide +kernel)
set_option maxRecDepth 65536 in
theorem w_c16 : (Jvm.Cond.code ({ cls := "java/lang/String", name := "charAt", desc := "(I)C" } : Jvm.MethodName) jdk_42_method_56_code (2 : Nat) (Option.some Jvm.ClassFile.FieldType.char)).before args0 about1 = true := code_word (m := ⟨7, 3⟩) (meth := k7m3) (c := k7c3) (by decide +kernel) rfl rfl rfl (by decide +kernel)
set_option maxRecDepth 65536 in
theorem w_c17 : (Jvm.Cond.code ({ cls := "java/lang/String", name := "isLatin1", desc := "()Z" } : Jvm.MethodName) jdk_42_method_154_code (1 : Nat) (Option.some Jvm.ClassFile.FieldType.boolean)).before args0 about1 = true := code_word (m := ⟨7, 11⟩) (meth := k7m11) (c := k7c11) (by decide +kernel) rfl rfl rfl (by decide +kernel)
set_option maxRecDepth 65536 in
theorem w_c18 : (Jvm.Cond.code ({ cls := "java/lang/StringLatin1", name := "charAt", desc := "([BI)C" } : Jvm.MethodName) jdk_43_method_2_code (2 : Nat) (Option.some Jvm.ClassFile.FieldType.char)).before args0 about1 = true := code_word (m := ⟨19, 1⟩) (meth := k19m1) (c := k19c1) (by decide +kernel) rfl rfl rfl (by decide +kernel)
set_option maxRecDepth 65536 in
theorem w_c19 : (Jvm.Cond.code ({ cls := "java/lang/String", name := "checkIndex", desc := "(II)V" } : Jvm.MethodName) jdk_42_method_155_code (2 : Nat) (Option.none : Option Jvm.ClassFile.FieldType)).before args0 about1 = true := code_word (m := ⟨7, 12⟩) (meth := k7m12) (c := k7c12) (by decide +kernel) rfl rfl rfl (by decide +kernel)
set_option maxRecDepth 65536 in
theorem w_c20 : (Jvm.Cond.code ({ cls := "jdk/internal/util/Preconditions", name := "checkIndex", desc := "(IILjava/util/function/BiFunction;)I" } : Jvm.MethodName) jdk_41_method_11_code (3 : Nat) (Option.some Jvm.ClassFile.FieldType.int)).before args0 about1 = true := code_word (m := ⟨20, 1⟩) (meth := k20m1) (c := k20c1) (by decide +kernel) rfl rfl rfl (by decide +kernel)
set_option maxRecDepth 65536 in
theorem w_c21 : (Jvm.Cond.code ({ cls := "java/lang/String", name := "substring", desc := "(II)Ljava/lang/String;" } : Jvm.MethodName) jdk_42_method_92_code (5 : Nat) (Option.some (Jvm.ClassFile.FieldType.object "java/lang/String"))).before args0 about1 = true := code_word (m := ⟨7, 6⟩) (meth := k7m6) (c := k7c6) (by decide +kernel) rfl rfl rfl (by decide +kernel)
set_option maxRecDepth 65536 in
theorem w_c22 : (Jvm.Cond.code ({ cls := "java/lang/String", name := "checkBoundsBeginEnd", desc := "(III)V" } : Jvm.MethodName) jdk_42_method_158_code (3 : Nat) (Option.none : Option Jvm.ClassFile.FieldType)).before args0 about1 = true := code_word (m := ⟨7, 13⟩) (meth := k7m13) (c := k7c13) (by decide +kernel) rfl rfl rfl (by decide +kernel)
set_option maxRecDepth 65536 in
theorem w_c23 : (Jvm.Cond.code ({ cls := "jdk/internal/util/Preconditions", name := "checkFromToIndex", desc := "(IIILjava/util/function/BiFunction;)I" } : Jvm.MethodName) jdk_41_method_12_code (4 : Nat) (Option.some Jvm.ClassFile.FieldType.int)).before args0 about1 = true := code_word (m := ⟨20, 2⟩) (meth := k20m2) (c := k20c2) (by decide +kernel) rfl rfl rfl (by decide +kernel)
set_option maxRecDepth 65536 in
theorem w_c24 : (Jvm.Cond.code ({ cls := "java/lang/StringLatin1", name := "newString", desc := "([BII)Ljava/lang/String;" } : Jvm.MethodName) jdk_43_method_47_code (3 : Nat) (Option.some (Jvm.ClassFile.FieldType.object "java/lang/String"))).before args0 about1 = true := code_word (m := ⟨19, 7⟩) (meth := k19m7) (c := k19c7) (by decide +kernel) rfl rfl rfl (by decide +kernel)
set_option maxRecDepth 65536 in
theorem w_c25 : (Jvm.Cond.code ({ cls := "java/util/Arrays", name := "copyOfRange", desc := "([BII)[B" } : Jvm.MethodName) jdk_65_method_132_code (3 : Nat) (Option.some (Jvm.ClassFile.FieldType.array Jvm.ClassFile.FieldType.byte))).before args0 about1 = true := code_word (m := ⟨21, 2⟩) (meth := k21m2) (c := k21c2) (by decide +kernel) rfl rfl rfl (by decide +kernel)
set_option maxRecDepth 65536 in
theorem w_c26 : (Jvm.Cond.code ({ cls := "java/util/Arrays", name := "copyOfRangeByte", desc := "([BII)[B" } : Jvm.MethodName) jdk_65_method_133_code (5 : Nat) (Option.some (Jvm.ClassFile.FieldType.array Jvm.ClassFile.FieldType.byte))).before args0 about1 = true := code_word (m := ⟨21, 3⟩) (meth := k21m3) (c := k21c3) (by decide +kernel) rfl rfl rfl (by decide +kernel)
set_option maxRecDepth 65536 in
theorem w_c27 : (Jvm.Cond.code ({ cls := "java/util/Arrays", name := "checkLength", desc := "(II)V" } : Jvm.MethodName) jdk_65_method_131_code (2 : Nat) (Option.none : Option Jvm.ClassFile.FieldType)).before args0 about1 = true := code_word (m := ⟨21, 1⟩) (meth := k21m1) (c := k21c1) (by decide +kernel) rfl rfl rfl (by decide +kernel)
set_option maxRecDepth 65536 in
theorem w_c28 : (Jvm.Cond.code ({ cls := "java/lang/Math", name := "min", desc := "(II)I" } : Jvm.MethodName) jdk_29_method_69_code (2 : Nat) (Option.some Jvm.ClassFile.FieldType.int)).before args0 about1 = true := code_word (m := ⟨22, 2⟩) (meth := k22m2) (c := k22c2) (by decide +kernel) rfl rfl rfl (by decide +kernel)
set_option maxRecDepth 65536 in
theorem w_c29 : (Jvm.Cond.code ({ cls := "java/lang/String", name := "<init>", desc := "([BB)V" } : Jvm.MethodName) jdk_42_method_151_code (3 : Nat) (Option.none : Option Jvm.ClassFile.FieldType)).before args0 about1 = true := code_word (m := ⟨7, 9⟩) (meth := k7m9) (c := k7c9) (by decide +kernel) rfl rfl rfl (by decide +kernel)
set_option maxRecDepth 65536 in
theorem w_c30 : (Jvm.Cond.code ({ cls := "java/lang/String", name := "strip", desc := "()Ljava/lang/String;" } : Jvm.MethodName) jdk_42_method_114_code (2 : Nat) (Option.some (Jvm.ClassFile.FieldType.object "java/lang/String"))).before args0 about1 = true := code_word (m := ⟨7, 7⟩) (meth := k7m7) (c := k7c7) (by decide +kernel) rfl rfl rfl (by decide +kernel)
set_option maxRecDepth 65536 in
theorem w_c31 : (Jvm.Cond.code ({ cls := "java/lang/StringLatin1", name := "strip", desc := "([B)Ljava/lang/String;" } : Jvm.MethodName) jdk_43_method_39_code (4 : Nat) (Option.some (Jvm.ClassFile.FieldType.object "java/lang/String"))).before args0 about1 = true := code_word (m := ⟨19, 5⟩) (meth := k19m5) (c := k19c5) (by decide +kernel) rfl rfl rfl (by decide +kernel)
set_option maxRecDepth 65536 in
theorem w_c32 : (Jvm.Cond.code ({ cls := "java/lang/StringLatin1", name := "indexOfNonWhitespace", desc := "([B)I" } : Jvm.MethodName) jdk_43_method_37_code (4 : Nat) (Option.some Jvm.ClassFile.FieldType.int)).before args0 about1 = true := code_word (m := ⟨19, 3⟩) (meth := k19m3) (c := k19c3) (by decide +kernel) rfl rfl rfl (by decide +kernel)
set_option maxRecDepth 65536 in
theorem w_c33 : (Jvm.Cond.code ({ cls := "java/lang/StringLatin1", name := "getChar", desc := "([BI)C" } : Jvm.MethodName) jdk_43_method_44_code (2 : Nat) (Option.some Jvm.ClassFile.FieldType.char)).before args0 about1 = true := code_word (m := ⟨19, 6⟩) (meth := k19m6) (c := k19c6) (by decide +kernel) rfl rfl rfl (by decide +kernel)
set_option maxRecDepth 65536 in
theorem w_c34 : (Jvm.Cond.code ({ cls := "java/lang/CharacterDataLatin1", name := "isWhitespace", desc := "(I)Z" } : Jvm.MethodName) jdk_116_method_26_code (3 : Nat) (Option.some Jvm.ClassFile.FieldType.boolean)).before args0 about1 = true := code_word (m := ⟨25, 1⟩) (meth := k25m1) (c := k25c1) (by decide +kernel) rfl rfl rfl (by decide +kernel)
set_option maxRecDepth 65536 in
theorem w_c35 : (Jvm.Cond.code ({ cls := "java/lang/CharacterDataLatin1", name := "getProperties", desc := "(I)I" } : Jvm.MethodName) jdk_116_method_1_code (4 : Nat) (Option.some Jvm.ClassFile.FieldType.int)).before args0 about1 = true := code_word (m := ⟨25, 0⟩) (meth := k25m0) (c := k25c0) (by decide +kernel) rfl rfl rfl (by decide +kernel)
set_option maxRecDepth 65536 in
theorem w_c36 : (Jvm.Cond.code ({ cls := "java/lang/StringLatin1", name := "lastIndexOfNonWhitespace", desc := "([B)I" } : Jvm.MethodName) jdk_43_method_38_code (4 : Nat) (Option.some Jvm.ClassFile.FieldType.int)).before args0 about1 = true := code_word (m := ⟨19, 4⟩) (meth := k19m4) (c := k19c4) (by decide +kernel) rfl rfl rfl (by decide +kernel)
set_option maxRecDepth 65536 in
theorem w_c37 : (Jvm.Cond.code ({ cls := "java/util/ArrayList", name := "add", desc := "(Ljava/lang/Object;)Z" } : Jvm.MethodName) jdk_38_method_25_code (2 : Nat) (Option.some Jvm.ClassFile.FieldType.boolean)).before args0 about1 = true := code_word (m := ⟨18, 7⟩) (meth := k18m7) (c := k18c7) (by decide +kernel) rfl rfl rfl (by decide +kernel)
set_option maxRecDepth 65536 in
theorem w_c38 : (Jvm.Cond.code ({ cls := "java/util/ArrayList", name := "add", desc := "(Ljava/lang/Object;[Ljava/lang/Object;I)V" } : Jvm.MethodName) jdk_38_method_24_code (4 : Nat) (Option.none : Option Jvm.ClassFile.FieldType)).before args0 about1 = true := code_word (m := ⟨18, 6⟩) (meth := k18m6) (c := k18c6) (by decide +kernel) rfl rfl rfl (by decide +kernel)
set_option maxRecDepth 65536 in
theorem w_c39 : (Jvm.Cond.code ({ cls := "java/util/ArrayList", name := "grow", desc := "()[Ljava/lang/Object;" } : Jvm.MethodName) jdk_38_method_7_code (1 : Nat) (Option.some (Jvm.ClassFile.FieldType.array (Jvm.ClassFile.FieldType.object "java/lang/Object")))).before args0 about1 = true := code_word (m := ⟨18, 2⟩) (meth := k18m2) (c := k18c2) (by decide +kernel) rfl rfl rfl (by decide +kernel)
set_option maxRecDepth 65536 in
theorem w_c40 : (Jvm.Cond.code ({ cls := "java/util/ArrayList", name := "grow", desc := "(I)[Ljava/lang/Object;" } : Jvm.MethodName) jdk_38_method_6_code (4 : Nat) (Option.some (Jvm.ClassFile.FieldType.array (Jvm.ClassFile.FieldType.object "java/lang/Object")))).before args0 about1 = true := code_word (m := ⟨18, 1⟩) (meth := k18m1) (c := k18c1) (by decide +kernel) rfl rfl rfl (by decide +kernel)
set_option maxRecDepth 65536 in
theorem w_c41 : (Jvm.Cond.code ({ cls := "java/lang/Math", name := "max", desc := "(II)I" } : Jvm.MethodName) jdk_29_method_65_code (2 : Nat) (Option.some Jvm.ClassFile.FieldType.int)).before args0 about1 = true := code_word (m := ⟨22, 1⟩) (meth := k22m1) (c := k22c1) (by decide +kernel) rfl rfl rfl (by decide +kernel)
set_option maxRecDepth 65536 in
theorem w_c42 : (Jvm.Cond.code ({ cls := "java/lang/String", name := "substring", desc := "(I)Ljava/lang/String;" } : Jvm.MethodName) jdk_42_method_91_code (2 : Nat) (Option.some (Jvm.ClassFile.FieldType.object "java/lang/String"))).before args0 about1 = true := code_word (m := ⟨7, 5⟩) (meth := k7m5) (c := k7c5) (by decide +kernel) rfl rfl rfl (by decide +kernel)
set_option maxRecDepth 65536 in
theorem w_c43 : (Jvm.Cond.code ({ cls := "java/util/ArrayList", name := "size", desc := "()I" } : Jvm.MethodName) jdk_38_method_8_code (1 : Nat) (Option.some Jvm.ClassFile.FieldType.int)).before args0 about1 = true := code_word (m := ⟨18, 3⟩) (meth := k18m3) (c := k18c3) (by decide +kernel) rfl rfl rfl (by decide +kernel)
set_option maxRecDepth 65536 in
theorem w_c44 : (Jvm.Cond.code ({ cls := "java/util/ArrayList", name := "get", desc := "(I)Ljava/lang/Object;" } : Jvm.MethodName) jdk_38_method_20_code (2 : Nat) (Option.some (Jvm.ClassFile.FieldType.object "java/lang/Object"))).before args0 about1 = true := code_word (m := ⟨18, 5⟩) (meth := k18m5) (c := k18c5) (by decide +kernel) rfl rfl rfl (by decide +kernel)
set_option maxRecDepth 65536 in
theorem w_c45 : (Jvm.Cond.code ({ cls := "java/util/Objects", name := "checkIndex", desc := "(II)I" } : Jvm.MethodName) jdk_31_method_17_code (2 : Nat) (Option.some Jvm.ClassFile.FieldType.int)).before args0 about1 = true := code_word (m := ⟨26, 1⟩) (meth := k26m1) (c := k26c1) (by decide +kernel) rfl rfl rfl (by decide +kernel)
set_option maxRecDepth 65536 in
theorem w_c46 : (Jvm.Cond.code ({ cls := "java/util/ArrayList", name := "elementData", desc := "(I)Ljava/lang/Object;" } : Jvm.MethodName) jdk_38_method_18_code (2 : Nat) (Option.some (Jvm.ClassFile.FieldType.object "java/lang/Object"))).before args0 about1 = true := code_word (m := ⟨18, 4⟩) (meth := k18m4) (c := k18c4) (by decide +kernel) rfl rfl rfl (by decide +kernel)
set_option maxRecDepth 65536 in
theorem w_c47 : (Jvm.Cond.code ({ cls := "java/lang/String", name := "equals", desc := "(Ljava/lang/Object;)Z" } : Jvm.MethodName) jdk_42_method_66_code (3 : Nat) (Option.some Jvm.ClassFile.FieldType.boolean)).before args0 about1 = true := code_word (m := ⟨7, 4⟩) (meth := k7m4) (c := k7c4) (by decide +kernel) rfl rfl rfl (by decide +kernel)
set_option maxRecDepth 65536 in
theorem w_c48 : (Jvm.Cond.code ({ cls := "java/lang/StringLatin1", name := "equals", desc := "([B[B)Z" } : Jvm.MethodName) jdk_43_method_13_code (3 : Nat) (Option.some Jvm.ClassFile.FieldType.boolean)).before args0 about1 = true := code_word (m := ⟨19, 2⟩) (meth := k19m2) (c := k19c2) (by decide +kernel) rfl rfl rfl (by decide +kernel)
def codes1 : List Jvm.Cond := [Jvm.Cond.code x code maxLocals ret, Jvm.Cond.code ({ cls := "com/example/wheal/wheal/FieldValuesSplitPinLaw", name := "ws", desc := "(I)C" } : Jvm.MethodName) method_2_code (1 : Nat) (Option.some Jvm.ClassFile.FieldType.char), Jvm.Cond.code ({ cls := "com/example/wheal/wheal/FieldValuesSplitPinLaw", name := "core", desc := "(ICC)[C" } : Jvm.MethodName) method_3_code (3 : Nat) (Option.some (Jvm.ClassFile.FieldType.array Jvm.ClassFile.FieldType.char)), Jvm.Cond.code ({ cls := "com/example/wheal/wheal/FieldValuesSplitPinLaw", name := "place", desc := "([CI[CIC)V" } : Jvm.MethodName) method_4_code (5 : Nat) (Option.none : Option Jvm.ClassFile.FieldType), Jvm.Cond.code ({ cls := "java/lang/String", name := "<init>", desc := "([C)V" } : Jvm.MethodName) jdk_42_method_3_code (2 : Nat) (Option.none : Option Jvm.ClassFile.FieldType), Jvm.Cond.code ({ cls := "java/lang/String", name := "<init>", desc := "([CIILjava/lang/Void;)V" } : Jvm.MethodName) jdk_42_method_149_code (6 : Nat) (Option.none : Option Jvm.ClassFile.FieldType), Jvm.Cond.code ({ cls := "java/lang/Object", name := "<init>", desc := "()V" } : Jvm.MethodName) object_method_1_code (1 : Nat) (Option.none : Option Jvm.ClassFile.FieldType), Jvm.Cond.code ({ cls := "java/lang/StringUTF16", name := "compress", desc := "([CII)[B" } : Jvm.MethodName) jdk_52_method_16_code (6 : Nat) (Option.some (Jvm.ClassFile.FieldType.array Jvm.ClassFile.FieldType.byte)), Jvm.Cond.code ({ cls := "java/lang/StringUTF16", name := "compress", desc := "([CI[BII)I" } : Jvm.MethodName) jdk_52_method_21_code (7 : Nat) (Option.some Jvm.ClassFile.FieldType.int), Jvm.Cond.code ({ cls := "java/lang/StringUTF16", name := "coderFromArrayLen", desc := "([BI)B" } : Jvm.MethodName) jdk_52_method_15_code (2 : Nat) (Option.some Jvm.ClassFile.FieldType.byte), Jvm.Cond.code ({ cls := "com/example/wheal/wheal/FieldValues", name := "split", desc := "(Ljava/lang/String;C)Ljava/util/List;" } : Jvm.MethodName) prog_1_method_2_code (8 : Nat) (Option.some (Jvm.ClassFile.FieldType.object "java/util/List")), Jvm.Cond.code ({ cls := "java/util/ArrayList", name := "<init>", desc := "()V" } : Jvm.MethodName) jdk_38_method_2_code (1 : Nat) (Option.none : Option Jvm.ClassFile.FieldType), Jvm.Cond.code ({ cls := "java/util/AbstractList", name := "<init>", desc := "()V" } : Jvm.MethodName) jdk_39_method_1_code (1 : Nat) (Option.none : Option Jvm.ClassFile.FieldType), Jvm.Cond.code ({ cls := "java/util/AbstractCollection", name := "<init>", desc := "()V" } : Jvm.MethodName) jdk_22_method_1_code (1 : Nat) (Option.none : Option Jvm.ClassFile.FieldType), Jvm.Cond.code ({ cls := "java/lang/String", name := "length", desc := "()I" } : Jvm.MethodName) jdk_42_method_54_code (1 : Nat) (Option.some Jvm.ClassFile.FieldType.int), Jvm.Cond.code ({ cls := "java/lang/String", name := "coder", desc := "()B" } : Jvm.MethodName) jdk_42_method_152_code (1 : Nat) (Option.some Jvm.ClassFile.FieldType.byte), Jvm.Cond.code ({ cls := "java/lang/String", name := "charAt", desc := "(I)C" } : Jvm.MethodName) jdk_42_method_56_code (2 : Nat) (Option.some Jvm.ClassFile.FieldType.char), Jvm.Cond.code ({ cls := "java/lang/String", name := "isLatin1", desc := "()Z" } : Jvm.MethodName) jdk_42_method_154_code (1 : Nat) (Option.some Jvm.ClassFile.FieldType.boolean), Jvm.Cond.code ({ cls := "java/lang/StringLatin1", name := "charAt", desc := "([BI)C" } : Jvm.MethodName) jdk_43_method_2_code (2 : Nat) (Option.some Jvm.ClassFile.FieldType.char), Jvm.Cond.code ({ cls := "java/lang/String", name := "checkIndex", desc := "(II)V" } : Jvm.MethodName) jdk_42_method_155_code (2 : Nat) (Option.none : Option Jvm.ClassFile.FieldType), Jvm.Cond.code ({ cls := "jdk/internal/util/Preconditions", name := "checkIndex", desc := "(IILjava/util/function/BiFunction;)I" } : Jvm.MethodName) jdk_41_method_11_code (3 : Nat) (Option.some Jvm.ClassFile.FieldType.int), Jvm.Cond.code ({ cls := "java/lang/String", name := "substring", desc := "(II)Ljava/lang/String;" } : Jvm.MethodName) jdk_42_method_92_code (5 : Nat) (Option.some (Jvm.ClassFile.FieldType.object "java/lang/String")), Jvm.Cond.code ({ cls := "java/lang/String", name := "checkBoundsBeginEnd", desc := "(III)V" } : Jvm.MethodName) jdk_42_method_158_code (3 : Nat) (Option.none : Option Jvm.ClassFile.FieldType), Jvm.Cond.code ({ cls := "jdk/internal/util/Preconditions", name := "checkFromToIndex", desc := "(IIILjava/util/function/BiFunction;)I" } : Jvm.MethodName) jdk_41_method_12_code (4 : Nat) (Option.some Jvm.ClassFile.FieldType.int), Jvm.Cond.code ({ cls := "java/lang/StringLatin1", name := "newString", desc := "([BII)Ljava/lang/String;" } : Jvm.MethodName) jdk_43_method_47_code (3 : Nat) (Option.some (Jvm.ClassFile.FieldType.object "java/lang/String")), Jvm.Cond.code ({ cls := "java/util/Arrays", name := "copyOfRange", desc := "([BII)[B" } : Jvm.MethodName) jdk_65_method_132_code (3 : Nat) (Option.some (Jvm.ClassFile.FieldType.array Jvm.ClassFile.FieldType.byte)), Jvm.Cond.code ({ cls := "java/util/Arrays", name := "copyOfRangeByte", desc := "([BII)[B" } : Jvm.MethodName) jdk_65_method_133_code (5 : Nat) (Option.some (Jvm.ClassFile.FieldType.array Jvm.ClassFile.FieldType.byte)), Jvm.Cond.code ({ cls := "java/util/Arrays", name := "checkLength", desc := "(II)V" } : Jvm.MethodName) jdk_65_method_131_code (2 : Nat) (Option.none : Option Jvm.ClassFile.FieldType), Jvm.Cond.code ({ cls := "java/lang/Math", name := "min", desc := "(II)I" } : Jvm.MethodName) jdk_29_method_69_code (2 : Nat) (Option.some Jvm.ClassFile.FieldType.int), Jvm.Cond.code ({ cls := "java/lang/String", name := "<init>", desc := "([BB)V" } : Jvm.MethodName) jdk_42_method_151_code (3 : Nat) (Option.none : Option Jvm.ClassFile.FieldType), Jvm.Cond.code ({ cls := "java/lang/String", name := "strip", desc := "()Ljava/lang/String;" } : Jvm.MethodName) jdk_42_method_114_code (2 : Nat) (Option.some (Jvm.ClassFile.FieldType.object "java/lang/String")), Jvm.Cond.code ({ cls := "java/lang/StringLatin1", name := "strip", desc := "([B)Ljava/lang/String;" } : Jvm.MethodName) jdk_43_method_39_code (4 : Nat) (Option.some (Jvm.ClassFile.FieldType.object "java/lang/String")), Jvm.Cond.code ({ cls := "java/lang/StringLatin1", name := "indexOfNonWhitespace", desc := "([B)I" } : Jvm.MethodName) jdk_43_method_37_code (4 : Nat) (Option.some Jvm.ClassFile.FieldType.int), Jvm.Cond.code ({ cls := "java/lang/StringLatin1", name := "getChar", desc := "([BI)C" } : Jvm.MethodName) jdk_43_method_44_code (2 : Nat) (Option.some Jvm.ClassFile.FieldType.char), Jvm.Cond.code ({ cls := "java/lang/CharacterDataLatin1", name := "isWhitespace", desc := "(I)Z" } : Jvm.MethodName) jdk_116_method_26_code (3 : Nat) (Option.some Jvm.ClassFile.FieldType.boolean), Jvm.Cond.code ({ cls := "java/lang/CharacterDataLatin1", name := "getProperties", desc := "(I)I" } : Jvm.MethodName) jdk_116_method_1_code (4 : Nat) (Option.some Jvm.ClassFile.FieldType.int), Jvm.Cond.code ({ cls := "java/lang/StringLatin1", name := "lastIndexOfNonWhitespace", desc := "([B)I" } : Jvm.MethodName) jdk_43_method_38_code (4 : Nat) (Option.some Jvm.ClassFile.FieldType.int), Jvm.Cond.code ({ cls := "java/util/ArrayList", name := "add", desc := "(Ljava/lang/Object;)Z" } : Jvm.MethodName) jdk_38_method_25_code (2 : Nat) (Option.some Jvm.ClassFile.FieldType.boolean), Jvm.Cond.code ({ cls := "java/util/ArrayList", name := "add", desc := "(Ljava/lang/Object;[Ljava/lang/Object;I)V" } : Jvm.MethodName) jdk_38_method_24_code (4 : Nat) (Option.none : Option Jvm.ClassFile.FieldType), Jvm.Cond.code ({ cls := "java/util/ArrayList", name := "grow", desc := "()[Ljava/lang/Object;" } : Jvm.MethodName) jdk_38_method_7_code (1 : Nat) (Option.some (Jvm.ClassFile.FieldType.array (Jvm.ClassFile.FieldType.object "java/lang/Object"))), Jvm.Cond.code ({ cls := "java/util/ArrayList", name := "grow", desc := "(I)[Ljava/lang/Object;" } : Jvm.MethodName) jdk_38_method_6_code (4 : Nat) (Option.some (Jvm.ClassFile.FieldType.array (Jvm.ClassFile.FieldType.object "java/lang/Object"))), Jvm.Cond.code ({ cls := "java/lang/Math", name := "max", desc := "(II)I" } : Jvm.MethodName) jdk_29_method_65_code (2 : Nat) (Option.some Jvm.ClassFile.FieldType.int), Jvm.Cond.code ({ cls := "java/lang/String", name := "substring", desc := "(I)Ljava/lang/String;" } : Jvm.MethodName) jdk_42_method_91_code (2 : Nat) (Option.some (Jvm.ClassFile.FieldType.object "java/lang/String")), Jvm.Cond.code ({ cls := "java/util/ArrayList", name := "size", desc := "()I" } : Jvm.MethodName) jdk_38_method_8_code (1 : Nat) (Option.some Jvm.ClassFile.FieldType.int), Jvm.Cond.code ({ cls := "java/util/ArrayList", name := "get", desc := "(I)Ljava/lang/Object;" } : Jvm.MethodName) jdk_38_method_20_code (2 : Nat) (Option.some (Jvm.ClassFile.FieldType.object "java/lang/Object")), Jvm.Cond.code ({ cls := "java/util/Objects", name := "checkIndex", desc := "(II)I" } : Jvm.MethodName) jdk_31_method_17_code (2 : Nat) (Option.some Jvm.ClassFile.FieldType.int), Jvm.Cond.code ({ cls := "java/util/ArrayList", name := "elementData", desc := "(I)Ljava/lang/Object;" } : Jvm.MethodName) jdk_38_method_18_code (2 : Nat) (Option.some (Jvm.ClassFile.FieldType.object "java/lang/Object")), Jvm.Cond.code ({ cls := "java/lang/String", name := "equals", desc := "(Ljava/lang/Object;)Z" } : Jvm.MethodName) jdk_42_method_66_code (3 : Nat) (Option.some Jvm.ClassFile.FieldType.boolean), Jvm.Cond.code ({ cls := "java/lang/StringLatin1", name := "equals", desc := "([B[B)Z" } : Jvm.MethodName) jdk_43_method_13_code (3 : Nat) (Option.some Jvm.ClassFile.FieldType.boolean)]
set_option maxRecDepth 65536 in
theorem codes_eq : words1.filter isCode = codes1 := rfl
theorem w_codes : ∀ c ∈ words1.filter isCode, c.before args0 about1 = true := by
  rw [codes_eq]
  intro c hc
  simp only [codes1, List.mem_cons, List.not_mem_nil, or_false] at hc
  rcases hc with rfl | rfl | rfl | rfl | rfl | rfl | rfl | rfl | rfl | rfl | rfl | rfl | rfl | rfl | rfl | rfl | rfl | rfl | rfl | rfl | rfl | rfl | rfl | rfl | rfl | rfl | rfl | rfl | rfl | rfl | rfl | rfl | rfl | rfl | rfl | rfl | rfl | rfl | rfl | rfl | rfl | rfl | rfl | rfl | rfl | rfl | rfl | rfl | rfl
  · exact w_c0
  · exact w_c1
  · exact w_c2
  · exact w_c3
  · exact w_c4
  · exact w_c5
  · exact w_c6
  · exact w_c7
  · exact w_c8
  · exact w_c9
  · exact w_c10
  · exact w_c11
  · exact w_c12
  · exact w_c13
  · exact w_c14
  · exact w_c15
  · exact w_c16
  · exact w_c17
  · exact w_c18
  · exact w_c19
  · exact w_c20
  · exact w_c21
  · exact w_c22
  · exact w_c23
  · exact w_c24
  · exact w_c25
  · exact w_c26
  · exact w_c27
  · exact w_c28
  · exact w_c29
  · exact w_c30
  · exact w_c31
  · exact w_c32
  · exact w_c33
  · exact w_c34
  · exact w_c35
  · exact w_c36
  · exact w_c37
  · exact w_c38
  · exact w_c39
  · exact w_c40
  · exact w_c41
  · exact w_c42
  · exact w_c43
  · exact w_c44
  · exact w_c45
  · exact w_c46
  · exact w_c47
  · exact w_c48
set_option maxRecDepth 65536 in
theorem w_t1 : (words1.take 24).all (fun c => isCode c || c.before args0 about1) = true := by decide +kernel
set_option maxRecDepth 65536 in
theorem w_t2 : ((words1.drop 24).take 24).all (fun c => isCode c || c.before args0 about1) = true := by decide +kernel
set_option maxRecDepth 65536 in
theorem w_t3 : (((words1.drop 24).drop 24).take 24).all (fun c => isCode c || c.before args0 about1) = true := by decide +kernel
set_option maxRecDepth 65536 in
theorem w_t4 : ((((words1.drop 24).drop 24).drop 24).take 24).all (fun c => isCode c || c.before args0 about1) = true := by decide +kernel
set_option maxRecDepth 65536 in
theorem w_t5 : (((((words1.drop 24).drop 24).drop 24).drop 24).take 24).all (fun c => isCode c || c.before args0 about1) = true := by decide +kernel
set_option maxRecDepth 65536 in
theorem w_t6 : ((((((words1.drop 24).drop 24).drop 24).drop 24).drop 24).take 24).all (fun c => isCode c || c.before args0 about1) = true := by decide +kernel
set_option maxRecDepth 65536 in
theorem w_t7 : (((((((words1.drop 24).drop 24).drop 24).drop 24).drop 24).drop 24).take 24).all (fun c => isCode c || c.before args0 about1) = true := by decide +kernel
set_option maxRecDepth 65536 in
theorem w_t8 : ((((((((words1.drop 24).drop 24).drop 24).drop 24).drop 24).drop 24).drop 24).take 24).all (fun c => isCode c || c.before args0 about1) = true := by decide +kernel
set_option maxRecDepth 65536 in
theorem w_t9 : (((((((((words1.drop 24).drop 24).drop 24).drop 24).drop 24).drop 24).drop 24).drop 24).take 24).all (fun c => isCode c || c.before args0 about1) = true := by decide +kernel
set_option maxRecDepth 65536 in
theorem w_t10 : ((((((((((words1.drop 24).drop 24).drop 24).drop 24).drop 24).drop 24).drop 24).drop 24).drop 24).take 24).all (fun c => isCode c || c.before args0 about1) = true := by decide +kernel
set_option maxRecDepth 65536 in
theorem w_t11 : ((((((((((words1.drop 24).drop 24).drop 24).drop 24).drop 24).drop 24).drop 24).drop 24).drop 24).drop 24).all (fun c => isCode c || c.before args0 about1) = true := by decide +kernel
theorem w_tables : (allAtoms (Jvm.Cond.code x code maxLocals ret :: tables_1)).before args0 about1 = true := by
  rw [allAtoms_all]
  show words1.all (fun c => c.before args0 about1) = true
  refine all_split ?_ w_codes
  rw [← List.take_append_drop 24 words1, List.all_append, w_t1, ← List.take_append_drop 24 (words1.drop 24), List.all_append, w_t2, ← List.take_append_drop 24 ((words1.drop 24).drop 24), List.all_append, w_t3, ← List.take_append_drop 24 (((words1.drop 24).drop 24).drop 24), List.all_append, w_t4, ← List.take_append_drop 24 ((((words1.drop 24).drop 24).drop 24).drop 24), List.all_append, w_t5, ← List.take_append_drop 24 (((((words1.drop 24).drop 24).drop 24).drop 24).drop 24), List.all_append, w_t6, ← List.take_append_drop 24 ((((((words1.drop 24).drop 24).drop 24).drop 24).drop 24).drop 24), List.all_append, w_t7, ← List.take_append_drop 24 (((((((words1.drop 24).drop 24).drop 24).drop 24).drop 24).drop 24).drop 24), List.all_append, w_t8, ← List.take_append_drop 24 ((((((((words1.drop 24).drop 24).drop 24).drop 24).drop 24).drop 24).drop 24).drop 24), List.all_append, w_t9, ← List.take_append_drop 24 (((((((((words1.drop 24).drop 24).drop 24).drop 24).drop 24).drop 24).drop 24).drop 24).drop 24), List.all_append, w_t10, w_t11]
  rfl
set_option maxRecDepth 65536 in
theorem w_rest : rest_1_c.before args0 about1 = true := by decide +kernel
set_option maxRecDepth 65536 in
theorem w_case : (Jvm.Cond.and given_1 narrow_1).before args0 about1 = true := by decide +kernel
set_option maxRecDepth 65536 in
theorem w_consts : constsHeld consts_1 about1 := Jvm.Lit.constsHeldB_iff.mp (by decide +kernel)
theorem w_applies : (headSpec (Jvm.Cond.code x code maxLocals ret :: tables_1) room_1).applies x e0.platform about1 = true :=
  (Spec.applies_iff w_frames).mpr ⟨w_running, w_runnable, w_alone, w_named, w_hears, w_ripe, w_room, w_tables⟩
theorem atStart : AtStart classFile x code maxLocals ret World_1 tables_1 room_1 Calls_1 rest_1 Pre_1 launch0 p0 e0 about1 theMethod args0 below0 :=
  ⟨lists_1, trivial, launch0.admits_env _ _ _, launch0.least_env, fairChoices_fair.cas, fairChoices_fair.clock, w_frames, w_args, w_heap, w_applies, ⟨w_consts, trivial⟩, w_rest, w_case⟩
end start1
theorem witness_1 : WitnessClaimed_1 := ⟨start1.p0, start1.e0, start1.about1, start1.theMethod, start1.args0, start1.below0, start1.atStart⟩
end Jvm.Pilot.@@N@@
