import JvmDerived
import JvmDerived.Pilot.@@N@@Statement
import JvmDerived.Pilot.@@N@@Code
set_option linter.unusedVariables false
set_option linter.unusedSimpArgs false
namespace Jvm.OwK
open Jvm Sem ClassFile Op Lib Jvm.Free Jvm.Stand Jvm.LawKit Jvm.RoadKit Bundle
/-- one decoded row of a body, with the place of the next one -/
def Dec (c : ByteArray) (pc : Nat) (i : Instr) (len n : Nat) : Prop := decode c pc = .ok (i, len) ∧ pc + len = n
/-- the run from here ends as F says -/
def Go (p : Program) (e : Env) (below : List Frame) (F : State → Prop) (T : State) (g : JFrame) : Prop := ∃ t, Steps p.tables e below (T.setTop g) t ∧ F t
/-- where a plain step can be taken -/
def Cx (p : Program) (below : List Frame) (m : MethodId) (c : Code) (cd : ByteArray) (T : State) : Prop := At T m c below ∧ p.tables.exec = Jvm.exec ∧ c.code = cd
def ush (x y : Int32) : Int32 := (x.toUInt32 >>> (y &&& 31).toUInt32).toInt32
def ushL (x : Int64) (y : Int32) : Int64 := (x.toUInt64 >>> (y &&& 0x3f).toInt64.toUInt64).toInt64
def lcm (x y : Int64) : Int32 := if x > y then 1 else if x = y then 0 else -1
section Plain
variable {p : Program} {e : Env} {below : List Frame} {F : State → Prop} {T : State} {m : MethodId} {c : Code} {cd : ByteArray} {pc n : Nat} {L : Array Slot} {r : List Value}
theorem Go.st {T' : State} {g g' : JFrame} (h : ∀ t, Steps p.tables e below (T'.setTop g') t → Steps p.tables e below (T.setTop g) t) (k : Go p e below F T' g') : Go p e below F T g := by
  obtain ⟨t, st, f⟩ := k; exact ⟨t, h t st, f⟩
theorem Go.run {T' : State} {g g' : JFrame} (h : Steps p.tables e below (T.setTop g) (T'.setTop g')) (k : Go p e below F T' g') : Go p e below F T g := by
  obtain ⟨t, st, f⟩ := k; exact ⟨t, h.trans st, f⟩
theorem Go.top {x y : Int32} (h : x = y) (k : Go p e below F T (mkF m pc L (.int y :: r))) : Go p e below F T (mkF m pc L (.int x :: r)) := h ▸ k
theorem Go.topL {x y : Int64} (h : x = y) (k : Go p e below F T (mkF m pc L (.long y :: r))) : Go p e below F T (mkF m pc L (.long x :: r)) := h ▸ k
theorem Go.aload_n (C : Cx p below m c cd T) {k : Fin 4} {v : Value} (d : Dec cd pc (.aload_n k) 1 n) (hl : L[k.val]? = some (.val v)) (hv : v.isRef = true)
    (k : Go p e below F T (mkF m n L (v :: r))) : Go p e below F T (mkF m pc L r) := by
  obtain ⟨t, st, f⟩ := k; obtain ⟨d, rfl⟩ := d
  exact ⟨t, XS.aloadN C.1 C.2.1 rfl (hb C.2.2 d) hl hv st, f⟩
theorem Go.aload (C : Cx p below m c cd T) {k : Nat} {v : Value} (d : Dec cd pc (.aload k) 2 n) (hl : L[k]? = some (.val v)) (hv : v.isRef = true)
    (k : Go p e below F T (mkF m n L (v :: r))) : Go p e below F T (mkF m pc L r) := by
  obtain ⟨t, st, f⟩ := k; obtain ⟨d, rfl⟩ := d
  exact ⟨t, XS.aload C.1 C.2.1 rfl (hb C.2.2 d) hl hv st, f⟩
theorem Go.iload_n (C : Cx p below m c cd T) {k : Fin 4} {v : Int32} (d : Dec cd pc (.iload_n k) 1 n) (hl : L[k.val]? = some (.val (.int v)))
    (k : Go p e below F T (mkF m n L (.int v :: r))) : Go p e below F T (mkF m pc L r) := by
  obtain ⟨t, st, f⟩ := k; obtain ⟨d, rfl⟩ := d
  exact ⟨t, XS.iloadN C.1 C.2.1 rfl (hb C.2.2 d) hl st, f⟩
theorem Go.iload (C : Cx p below m c cd T) {k : Nat} {v : Int32} (d : Dec cd pc (.iload k) 2 n) (hl : L[k]? = some (.val (.int v)))
    (k : Go p e below F T (mkF m n L (.int v :: r))) : Go p e below F T (mkF m pc L r) := by
  obtain ⟨t, st, f⟩ := k; obtain ⟨d, rfl⟩ := d
  exact ⟨t, XS.iload C.1 C.2.1 rfl (hb C.2.2 d) hl st, f⟩
theorem Go.lload_n (C : Cx p below m c cd T) {k : Fin 4} {v : Int64} (d : Dec cd pc (.lload_n k) 1 n) (hl : L[k.val]? = some (.val (.long v)))
    (k : Go p e below F T (mkF m n L (.long v :: r))) : Go p e below F T (mkF m pc L r) := by
  obtain ⟨t, st, f⟩ := k; obtain ⟨d, rfl⟩ := d
  exact ⟨t, XS.lloadN C.1 C.2.1 rfl (hb C.2.2 d) hl st, f⟩
theorem Go.lload (C : Cx p below m c cd T) {k : Nat} {v : Int64} (d : Dec cd pc (.lload k) 2 n) (hl : L[k]? = some (.val (.long v)))
    (k : Go p e below F T (mkF m n L (.long v :: r))) : Go p e below F T (mkF m pc L r) := by
  obtain ⟨t, st, f⟩ := k; obtain ⟨d, rfl⟩ := d
  exact ⟨t, XS.lload C.1 C.2.1 rfl (hb C.2.2 d) hl st, f⟩
theorem Go.iconst (C : Cx p below m c cd T) {i : Int} {z : Int32} (d : Dec cd pc (.iconst i) 1 n) (hz : Int32.ofInt i = z)
    (k : Go p e below F T (mkF m n L (.int z :: r))) : Go p e below F T (mkF m pc L r) := by
  obtain ⟨t, st, f⟩ := k; obtain ⟨d, rfl⟩ := d
  subst hz; exact ⟨t, XS.iconst C.1 C.2.1 rfl (hb C.2.2 d)  st, f⟩
theorem Go.bipush (C : Cx p below m c cd T) {i : Int} {z : Int32} (d : Dec cd pc (.bipush i) 2 n) (hz : (Int8.ofInt i).toInt32 = z)
    (k : Go p e below F T (mkF m n L (.int z :: r))) : Go p e below F T (mkF m pc L r) := by
  obtain ⟨t, st, f⟩ := k; obtain ⟨d, rfl⟩ := d
  subst hz; exact ⟨t, XS.bipush C.1 C.2.1 rfl (hb C.2.2 d)  st, f⟩
theorem Go.sipush (C : Cx p below m c cd T) {i : Int} {z : Int32} (d : Dec cd pc (.sipush i) 3 n) (hz : (Int16.ofInt i).toInt32 = z)
    (k : Go p e below F T (mkF m n L (.int z :: r))) : Go p e below F T (mkF m pc L r) := by
  obtain ⟨t, st, f⟩ := k; obtain ⟨d, rfl⟩ := d
  subst hz; exact ⟨t, XS.sipush C.1 C.2.1 rfl (hb C.2.2 d)  st, f⟩
theorem Go.aconst_null (C : Cx p below m c cd T)  (d : Dec cd pc (.aconst_null) 1 n)
    (k : Go p e below F T (mkF m n L (.null :: r))) : Go p e below F T (mkF m pc L r) := by
  obtain ⟨t, st, f⟩ := k; obtain ⟨d, rfl⟩ := d
  exact ⟨t, XS.aconstNull C.1 C.2.1 rfl (hb C.2.2 d)  st, f⟩
theorem Go.iadd (C : Cx p below m c cd T) {x y : Int32} (d : Dec cd pc (.iadd) 1 n)
    (k : Go p e below F T (mkF m n L (.int (x + y) :: r))) : Go p e below F T (mkF m pc L (.int y :: .int x :: r)) := by
  obtain ⟨t, st, f⟩ := k; obtain ⟨d, rfl⟩ := d
  exact ⟨t, XS.iadd C.1 C.2.1 rfl (hb C.2.2 d) rfl st, f⟩
theorem Go.isub (C : Cx p below m c cd T) {x y : Int32} (d : Dec cd pc (.isub) 1 n)
    (k : Go p e below F T (mkF m n L (.int (x - y) :: r))) : Go p e below F T (mkF m pc L (.int y :: .int x :: r)) := by
  obtain ⟨t, st, f⟩ := k; obtain ⟨d, rfl⟩ := d
  exact ⟨t, XS.isub C.1 C.2.1 rfl (hb C.2.2 d) rfl st, f⟩
theorem Go.iand (C : Cx p below m c cd T) {x y : Int32} (d : Dec cd pc (.iand) 1 n)
    (k : Go p e below F T (mkF m n L (.int (x &&& y) :: r))) : Go p e below F T (mkF m pc L (.int y :: .int x :: r)) := by
  obtain ⟨t, st, f⟩ := k; obtain ⟨d, rfl⟩ := d
  exact ⟨t, XS.iand C.1 C.2.1 rfl (hb C.2.2 d) rfl st, f⟩
theorem Go.imul (C : Cx p below m c cd T) {x y : Int32} (d : Dec cd pc (.imul) 1 n)
    (k : Go p e below F T (mkF m n L (.int (x * y) :: r))) : Go p e below F T (mkF m pc L (.int y :: .int x :: r)) := by
  obtain ⟨t, st, f⟩ := k; obtain ⟨d, rfl⟩ := d
  exact ⟨t, XS.imul C.1 C.2.1 rfl (hb C.2.2 d) rfl st, f⟩
theorem Go.ior (C : Cx p below m c cd T) {x y : Int32} (d : Dec cd pc (.ior) 1 n)
    (k : Go p e below F T (mkF m n L (.int (x ||| y) :: r))) : Go p e below F T (mkF m pc L (.int y :: .int x :: r)) := by
  obtain ⟨t, st, f⟩ := k; obtain ⟨d, rfl⟩ := d
  exact ⟨t, XS.ior C.1 C.2.1 rfl (hb C.2.2 d) rfl st, f⟩
theorem Go.ixor (C : Cx p below m c cd T) {x y : Int32} (d : Dec cd pc (.ixor) 1 n)
    (k : Go p e below F T (mkF m n L (.int (x ^^^ y) :: r))) : Go p e below F T (mkF m pc L (.int y :: .int x :: r)) := by
  obtain ⟨t, st, f⟩ := k; obtain ⟨d, rfl⟩ := d
  exact ⟨t, XS.ixor C.1 C.2.1 rfl (hb C.2.2 d) rfl st, f⟩
theorem Go.iushr (C : Cx p below m c cd T) {x y : Int32} (d : Dec cd pc (.iushr) 1 n)
    (k : Go p e below F T (mkF m n L (.int (ush x y) :: r))) : Go p e below F T (mkF m pc L (.int y :: .int x :: r)) := by
  obtain ⟨t, st, f⟩ := k; obtain ⟨d, rfl⟩ := d
  exact ⟨t, XS.iushr C.1 C.2.1 rfl (hb C.2.2 d) rfl st, f⟩
theorem Go.idiv (C : Cx p below m c cd T) {x y : Int32} (d : Dec cd pc (.idiv) 1 n) (hy : y ≠ 0)
    (k : Go p e below F T (mkF m n L (.int (x / y) :: r))) : Go p e below F T (mkF m pc L (.int y :: .int x :: r)) := by
  obtain ⟨t, st, f⟩ := k; obtain ⟨d, rfl⟩ := d
  exact ⟨t, XS.idiv C.1 C.2.1 rfl (hb C.2.2 d) rfl hy st, f⟩
theorem Go.ineg (C : Cx p below m c cd T) {x : Int32} (d : Dec cd pc (.ineg) 1 n)
    (k : Go p e below F T (mkF m n L (.int (-x) :: r))) : Go p e below F T (mkF m pc L (.int x :: r)) := by
  obtain ⟨t, st, f⟩ := k; obtain ⟨d, rfl⟩ := d
  exact ⟨t, XS.ineg C.1 C.2.1 rfl (hb C.2.2 d) rfl st, f⟩
theorem Go.ladd (C : Cx p below m c cd T) {x y : Int64} (d : Dec cd pc (.ladd) 1 n)
    (k : Go p e below F T (mkF m n L (.long (x + y) :: r))) : Go p e below F T (mkF m pc L (.long y :: .long x :: r)) := by
  obtain ⟨t, st, f⟩ := k; obtain ⟨d, rfl⟩ := d
  exact ⟨t, XS.ladd C.1 C.2.1 rfl (hb C.2.2 d) rfl st, f⟩
theorem Go.lsub (C : Cx p below m c cd T) {x y : Int64} (d : Dec cd pc (.lsub) 1 n)
    (k : Go p e below F T (mkF m n L (.long (x - y) :: r))) : Go p e below F T (mkF m pc L (.long y :: .long x :: r)) := by
  obtain ⟨t, st, f⟩ := k; obtain ⟨d, rfl⟩ := d
  exact ⟨t, XS.lsub C.1 C.2.1 rfl (hb C.2.2 d) rfl st, f⟩
theorem Go.lmul (C : Cx p below m c cd T) {x y : Int64} (d : Dec cd pc (.lmul) 1 n)
    (k : Go p e below F T (mkF m n L (.long (x * y) :: r))) : Go p e below F T (mkF m pc L (.long y :: .long x :: r)) := by
  obtain ⟨t, st, f⟩ := k; obtain ⟨d, rfl⟩ := d
  exact ⟨t, XS.lmul C.1 C.2.1 rfl (hb C.2.2 d) rfl st, f⟩
theorem Go.land (C : Cx p below m c cd T) {x y : Int64} (d : Dec cd pc (.land) 1 n)
    (k : Go p e below F T (mkF m n L (.long (x &&& y) :: r))) : Go p e below F T (mkF m pc L (.long y :: .long x :: r)) := by
  obtain ⟨t, st, f⟩ := k; obtain ⟨d, rfl⟩ := d
  exact ⟨t, XS.land C.1 C.2.1 rfl (hb C.2.2 d) rfl st, f⟩
theorem Go.lor (C : Cx p below m c cd T) {x y : Int64} (d : Dec cd pc (.lor) 1 n)
    (k : Go p e below F T (mkF m n L (.long (x ||| y) :: r))) : Go p e below F T (mkF m pc L (.long y :: .long x :: r)) := by
  obtain ⟨t, st, f⟩ := k; obtain ⟨d, rfl⟩ := d
  exact ⟨t, XS.lor C.1 C.2.1 rfl (hb C.2.2 d) rfl st, f⟩
theorem Go.lushr (C : Cx p below m c cd T) {x : Int64} {y : Int32} (d : Dec cd pc (.lushr) 1 n)
    (k : Go p e below F T (mkF m n L (.long (ushL x y) :: r))) : Go p e below F T (mkF m pc L (.int y :: .long x :: r)) := by
  obtain ⟨t, st, f⟩ := k; obtain ⟨d, rfl⟩ := d
  exact ⟨t, XS.lushr C.1 C.2.1 rfl (hb C.2.2 d) rfl st, f⟩
theorem Go.i2l (C : Cx p below m c cd T) {x : Int32} (d : Dec cd pc (.i2l) 1 n)
    (k : Go p e below F T (mkF m n L (.long x.toInt64 :: r))) : Go p e below F T (mkF m pc L (.int x :: r)) := by
  obtain ⟨t, st, f⟩ := k; obtain ⟨d, rfl⟩ := d
  exact ⟨t, XS.i2l C.1 C.2.1 rfl (hb C.2.2 d) rfl st, f⟩
theorem Go.l2i (C : Cx p below m c cd T) {x : Int64} (d : Dec cd pc (.l2i) 1 n)
    (k : Go p e below F T (mkF m n L (.int x.toInt32 :: r))) : Go p e below F T (mkF m pc L (.long x :: r)) := by
  obtain ⟨t, st, f⟩ := k; obtain ⟨d, rfl⟩ := d
  exact ⟨t, XS.l2i C.1 C.2.1 rfl (hb C.2.2 d) rfl st, f⟩
theorem Go.i2b (C : Cx p below m c cd T) {x : Int32} (d : Dec cd pc (.i2b) 1 n)
    (k : Go p e below F T (mkF m n L (.int x.toInt8.toInt32 :: r))) : Go p e below F T (mkF m pc L (.int x :: r)) := by
  obtain ⟨t, st, f⟩ := k; obtain ⟨d, rfl⟩ := d
  exact ⟨t, XS.i2b C.1 C.2.1 rfl (hb C.2.2 d) rfl st, f⟩
theorem Go.i2c (C : Cx p below m c cd T) {x : Int32} (d : Dec cd pc (.i2c) 1 n)
    (k : Go p e below F T (mkF m n L (.int x.toUInt32.toUInt16.toUInt32.toInt32 :: r))) : Go p e below F T (mkF m pc L (.int x :: r)) := by
  obtain ⟨t, st, f⟩ := k; obtain ⟨d, rfl⟩ := d
  exact ⟨t, XS.i2c C.1 C.2.1 rfl (hb C.2.2 d) rfl st, f⟩
theorem Go.lcmp (C : Cx p below m c cd T) {x y : Int64} (d : Dec cd pc (.lcmp) 1 n)
    (k : Go p e below F T (mkF m n L (.int (lcm x y) :: r))) : Go p e below F T (mkF m pc L (.long y :: .long x :: r)) := by
  obtain ⟨t, st, f⟩ := k; obtain ⟨d, rfl⟩ := d
  exact ⟨t, XS.lcmp C.1 C.2.1 rfl (hb C.2.2 d) rfl st, f⟩
theorem Go.dup (C : Cx p below m c cd T) {x : Value} (d : Dec cd pc (.dup) 1 n) (hc : x.category = 1)
    (k : Go p e below F T (mkF m n L (x :: x :: r))) : Go p e below F T (mkF m pc L (x :: r)) := by
  obtain ⟨t, st, f⟩ := k; obtain ⟨d, rfl⟩ := d
  exact ⟨t, XS.dup C.1 C.2.1 rfl (hb C.2.2 d) rfl hc st, f⟩
theorem Go.pop (C : Cx p below m c cd T) {x : Value} (d : Dec cd pc (.pop) 1 n) (hc : x.category = 1)
    (k : Go p e below F T (mkF m n L r)) : Go p e below F T (mkF m pc L (x :: r)) := by
  obtain ⟨t, st, f⟩ := k; obtain ⟨d, rfl⟩ := d
  exact ⟨t, XS.pop C.1 C.2.1 rfl (hb C.2.2 d) rfl hc st, f⟩
theorem Go.istore_n (C : Cx p below m c cd T) {k : Fin 4} {x : Int32} {L' : Array Slot} (d : Dec cd pc (.istore_n k) 1 n) (hl : storeLocals L k.val (.int x) = some L')
    (k : Go p e below F T (mkF m n L' r)) : Go p e below F T (mkF m pc L (.int x :: r)) := by
  obtain ⟨t, st, f⟩ := k; obtain ⟨d, rfl⟩ := d
  exact ⟨t, XS.istoreN C.1 C.2.1 rfl (hb C.2.2 d) rfl hl st, f⟩
theorem Go.istore (C : Cx p below m c cd T) {k : Nat} {x : Int32} {L' : Array Slot} (d : Dec cd pc (.istore k) 2 n) (hl : storeLocals L k (.int x) = some L')
    (k : Go p e below F T (mkF m n L' r)) : Go p e below F T (mkF m pc L (.int x :: r)) := by
  obtain ⟨t, st, f⟩ := k; obtain ⟨d, rfl⟩ := d
  exact ⟨t, XS.istore C.1 C.2.1 rfl (hb C.2.2 d) rfl hl st, f⟩
theorem Go.lstore_n (C : Cx p below m c cd T) {k : Fin 4} {x : Int64} {L' : Array Slot} (d : Dec cd pc (.lstore_n k) 1 n) (hl : storeLocals L k.val (.long x) = some L')
    (k : Go p e below F T (mkF m n L' r)) : Go p e below F T (mkF m pc L (.long x :: r)) := by
  obtain ⟨t, st, f⟩ := k; obtain ⟨d, rfl⟩ := d
  exact ⟨t, XS.lstoreN C.1 C.2.1 rfl (hb C.2.2 d) rfl hl st, f⟩
theorem Go.lstore (C : Cx p below m c cd T) {k : Nat} {x : Int64} {L' : Array Slot} (d : Dec cd pc (.lstore k) 2 n) (hl : storeLocals L k (.long x) = some L')
    (k : Go p e below F T (mkF m n L' r)) : Go p e below F T (mkF m pc L (.long x :: r)) := by
  obtain ⟨t, st, f⟩ := k; obtain ⟨d, rfl⟩ := d
  exact ⟨t, XS.lstore C.1 C.2.1 rfl (hb C.2.2 d) rfl hl st, f⟩
theorem Go.astore_n (C : Cx p below m c cd T) {k : Fin 4} {x : Value} {L' : Array Slot} (d : Dec cd pc (.astore_n k) 1 n) (hv : x.isRef = true) (hl : storeLocals L k.val x = some L')
    (k : Go p e below F T (mkF m n L' r)) : Go p e below F T (mkF m pc L (x :: r)) := by
  obtain ⟨t, st, f⟩ := k; obtain ⟨d, rfl⟩ := d
  exact ⟨t, XS.astoreN C.1 C.2.1 rfl (hb C.2.2 d) rfl hv hl st, f⟩
theorem Go.astore (C : Cx p below m c cd T) {k : Nat} {x : Value} {L' : Array Slot} (d : Dec cd pc (.astore k) 2 n) (hv : x.isRef = true) (hl : storeLocals L k x = some L')
    (k : Go p e below F T (mkF m n L' r)) : Go p e below F T (mkF m pc L (x :: r)) := by
  obtain ⟨t, st, f⟩ := k; obtain ⟨d, rfl⟩ := d
  exact ⟨t, XS.astore C.1 C.2.1 rfl (hb C.2.2 d) rfl hv hl st, f⟩
theorem Go.iinc (C : Cx p below m c cd T) {k : Nat} {i : Int} {x z : Int32} {L' : Array Slot} (d : Dec cd pc (.iinc k i) 3 n) (hl : L[k]? = some (.val (.int x))) (hz : x + Int32.ofInt i = z) (hl' : storeLocals L k (.int z) = some L')
    (k : Go p e below F T (mkF m n L' r)) : Go p e below F T (mkF m pc L r) := by
  obtain ⟨t, st, f⟩ := k; obtain ⟨d, rfl⟩ := d
  exact ⟨t, XS.iinc C.1 C.2.1 rfl (hb C.2.2 d) hl (hz ▸ hl') st, f⟩
theorem Go.irem (C : Cx p below m c cd T) {x y : Int32} (d : Dec cd pc (.irem) 1 n) (hy : y ≠ 0)
    (k : Go p e below F T (mkF m n L (.int (x % y) :: r))) : Go p e below F T (mkF m pc L (.int y :: .int x :: r)) := by
  obtain ⟨t, st, f⟩ := k; obtain ⟨d, rfl⟩ := d
  exact ⟨t, XS.irem C.1 C.2.1 rfl (hb C.2.2 d) rfl hy (by rw [irem_eq_mod]; exact st), f⟩
theorem Go.lconst (C : Cx p below m c cd T) {k0 : Fin 2} {z : Int64} (d : Dec cd pc (.lconst k0) 1 n) (hz : Int64.ofNat k0 = z)
    (k : Go p e below F T (mkF m n L (.long z :: r))) : Go p e below F T (mkF m pc L r) := by
  obtain ⟨t, st, f⟩ := k; obtain ⟨d, rfl⟩ := d
  subst hz; exact ⟨t, XS.lconst C.1 C.2.1 rfl (hb C.2.2 d) st, f⟩
theorem Go.goto (C : Cx p below m c cd T) {o : Int} {q : Nat} (d : Dec cd pc (.goto o) 3 n) (ho : 0 ≤ (pc : Int) + o) (hp : ((pc : Int) + o).toNat = q)
    (k : Go p e below F T (mkF m q L r)) : Go p e below F T (mkF m pc L r) := by
  obtain ⟨t, st, f⟩ := k; obtain ⟨d, rfl⟩ := d
  exact ⟨t, XS.goto C.1 C.2.1 rfl (pc0 := pc) rfl (hb C.2.2 d) ho hp st, f⟩
theorem Go.ifb (C : Cx p below m c cd T) {cc : ClassFile.Cond} {x : Int32} {o : Int} {q : Nat} (d : Dec cd pc (.ifCond cc o) 3 n) (ho : 0 ≤ (pc : Int) + o) (hp : ((pc : Int) + o).toNat = q)
    (k1 : ifCond.holds cc x = true → Go p e below F T (mkF m q L r)) (k2 : ifCond.holds cc x = false → Go p e below F T (mkF m n L r)) : Go p e below F T (mkF m pc L (.int x :: r)) := by
  obtain ⟨d, rfl⟩ := d
  cases hc : ifCond.holds cc x
  · obtain ⟨t, st, f⟩ := k2 hc; exact ⟨t, XS.ifNo C.1 C.2.1 rfl (hb C.2.2 d) rfl hc st, f⟩
  · obtain ⟨t, st, f⟩ := k1 hc; exact ⟨t, XS.ifYes C.1 C.2.1 rfl (pc0 := pc) rfl (hb C.2.2 d) rfl hc ho hp st, f⟩
theorem Go.icb (C : Cx p below m c cd T) {cc : ClassFile.Cond} {x y : Int32} {o : Int} {q : Nat} (d : Dec cd pc (.if_icmp cc o) 3 n) (ho : 0 ≤ (pc : Int) + o) (hp : ((pc : Int) + o).toNat = q)
    (k1 : if_icmp.holds cc x y = true → Go p e below F T (mkF m q L r)) (k2 : if_icmp.holds cc x y = false → Go p e below F T (mkF m n L r)) : Go p e below F T (mkF m pc L (.int y :: .int x :: r)) := by
  obtain ⟨d, rfl⟩ := d
  cases hc : if_icmp.holds cc x y
  · obtain ⟨t, st, f⟩ := k2 hc; exact ⟨t, XS.icmpNo C.1 C.2.1 rfl (hb C.2.2 d) rfl hc st, f⟩
  · obtain ⟨t, st, f⟩ := k1 hc; exact ⟨t, XS.icmpYes C.1 C.2.1 rfl (pc0 := pc) rfl (hb C.2.2 d) rfl hc ho hp st, f⟩
theorem Go.ifeq (C : Cx p below m c cd T) {x : Int32} {o : Int} {q : Nat} (d : Dec cd pc (.ifCond .eq o) 3 n) (ho : 0 ≤ (pc : Int) + o) (hp : ((pc : Int) + o).toNat = q)
    (k1 : x = 0 → Go p e below F T (mkF m q L r)) (k2 : ¬ x = 0 → Go p e below F T (mkF m n L r)) : Go p e below F T (mkF m pc L (.int x :: r)) :=
  Go.ifb C d ho hp (fun h => k1 (by simpa [ifCond.holds] using h)) (fun h => k2 (by simpa [ifCond.holds] using h))
theorem Go.ifne (C : Cx p below m c cd T) {x : Int32} {o : Int} {q : Nat} (d : Dec cd pc (.ifCond .ne o) 3 n) (ho : 0 ≤ (pc : Int) + o) (hp : ((pc : Int) + o).toNat = q)
    (k1 : ¬ x = 0 → Go p e below F T (mkF m q L r)) (k2 : x = 0 → Go p e below F T (mkF m n L r)) : Go p e below F T (mkF m pc L (.int x :: r)) :=
  Go.ifb C d ho hp (fun h => k1 (by simpa [ifCond.holds] using h)) (fun h => k2 (by simpa [ifCond.holds] using h))
theorem Go.iflt (C : Cx p below m c cd T) {x : Int32} {o : Int} {q : Nat} (d : Dec cd pc (.ifCond .lt o) 3 n) (ho : 0 ≤ (pc : Int) + o) (hp : ((pc : Int) + o).toNat = q)
    (k1 : x < 0 → Go p e below F T (mkF m q L r)) (k2 : ¬ x < 0 → Go p e below F T (mkF m n L r)) : Go p e below F T (mkF m pc L (.int x :: r)) :=
  Go.ifb C d ho hp (fun h => k1 (by simpa [ifCond.holds] using h)) (fun h => k2 (by simpa [ifCond.holds] using h))
theorem Go.ifge (C : Cx p below m c cd T) {x : Int32} {o : Int} {q : Nat} (d : Dec cd pc (.ifCond .ge o) 3 n) (ho : 0 ≤ (pc : Int) + o) (hp : ((pc : Int) + o).toNat = q)
    (k1 : ¬ x < 0 → Go p e below F T (mkF m q L r)) (k2 : x < 0 → Go p e below F T (mkF m n L r)) : Go p e below F T (mkF m pc L (.int x :: r)) :=
  Go.ifb C d ho hp (fun h => k1 (by simpa [ifCond.holds] using h)) (fun h => k2 (by simpa [ifCond.holds] using h))
theorem Go.ifgt (C : Cx p below m c cd T) {x : Int32} {o : Int} {q : Nat} (d : Dec cd pc (.ifCond .gt o) 3 n) (ho : 0 ≤ (pc : Int) + o) (hp : ((pc : Int) + o).toNat = q)
    (k1 : 0 < x → Go p e below F T (mkF m q L r)) (k2 : ¬ 0 < x → Go p e below F T (mkF m n L r)) : Go p e below F T (mkF m pc L (.int x :: r)) :=
  Go.ifb C d ho hp (fun h => k1 (by simpa [ifCond.holds] using h)) (fun h => k2 (by simpa [ifCond.holds] using h))
theorem Go.ifle (C : Cx p below m c cd T) {x : Int32} {o : Int} {q : Nat} (d : Dec cd pc (.ifCond .le o) 3 n) (ho : 0 ≤ (pc : Int) + o) (hp : ((pc : Int) + o).toNat = q)
    (k1 : ¬ 0 < x → Go p e below F T (mkF m q L r)) (k2 : 0 < x → Go p e below F T (mkF m n L r)) : Go p e below F T (mkF m pc L (.int x :: r)) :=
  Go.ifb C d ho hp (fun h => k1 (by simpa [ifCond.holds] using h)) (fun h => k2 (by simpa [ifCond.holds] using h))
theorem Go.iceq (C : Cx p below m c cd T) {x y : Int32} {o : Int} {q : Nat} (d : Dec cd pc (.if_icmp .eq o) 3 n) (ho : 0 ≤ (pc : Int) + o) (hp : ((pc : Int) + o).toNat = q)
    (k1 : x = y → Go p e below F T (mkF m q L r)) (k2 : ¬ x = y → Go p e below F T (mkF m n L r)) : Go p e below F T (mkF m pc L (.int y :: .int x :: r)) :=
  Go.icb C d ho hp (fun h => k1 (by simpa [if_icmp.holds] using h)) (fun h => k2 (by simpa [if_icmp.holds] using h))
theorem Go.icne (C : Cx p below m c cd T) {x y : Int32} {o : Int} {q : Nat} (d : Dec cd pc (.if_icmp .ne o) 3 n) (ho : 0 ≤ (pc : Int) + o) (hp : ((pc : Int) + o).toNat = q)
    (k1 : ¬ x = y → Go p e below F T (mkF m q L r)) (k2 : x = y → Go p e below F T (mkF m n L r)) : Go p e below F T (mkF m pc L (.int y :: .int x :: r)) :=
  Go.icb C d ho hp (fun h => k1 (by simpa [if_icmp.holds] using h)) (fun h => k2 (by simpa [if_icmp.holds] using h))
theorem Go.iclt (C : Cx p below m c cd T) {x y : Int32} {o : Int} {q : Nat} (d : Dec cd pc (.if_icmp .lt o) 3 n) (ho : 0 ≤ (pc : Int) + o) (hp : ((pc : Int) + o).toNat = q)
    (k1 : x < y → Go p e below F T (mkF m q L r)) (k2 : ¬ x < y → Go p e below F T (mkF m n L r)) : Go p e below F T (mkF m pc L (.int y :: .int x :: r)) :=
  Go.icb C d ho hp (fun h => k1 (by simpa [if_icmp.holds] using h)) (fun h => k2 (by simpa [if_icmp.holds] using h))
theorem Go.icge (C : Cx p below m c cd T) {x y : Int32} {o : Int} {q : Nat} (d : Dec cd pc (.if_icmp .ge o) 3 n) (ho : 0 ≤ (pc : Int) + o) (hp : ((pc : Int) + o).toNat = q)
    (k1 : ¬ x < y → Go p e below F T (mkF m q L r)) (k2 : x < y → Go p e below F T (mkF m n L r)) : Go p e below F T (mkF m pc L (.int y :: .int x :: r)) :=
  Go.icb C d ho hp (fun h => k1 (by simpa [if_icmp.holds] using h)) (fun h => k2 (by simpa [if_icmp.holds] using h))
theorem Go.icgt (C : Cx p below m c cd T) {x y : Int32} {o : Int} {q : Nat} (d : Dec cd pc (.if_icmp .gt o) 3 n) (ho : 0 ≤ (pc : Int) + o) (hp : ((pc : Int) + o).toNat = q)
    (k1 : y < x → Go p e below F T (mkF m q L r)) (k2 : ¬ y < x → Go p e below F T (mkF m n L r)) : Go p e below F T (mkF m pc L (.int y :: .int x :: r)) :=
  Go.icb C d ho hp (fun h => k1 (by simpa [if_icmp.holds] using h)) (fun h => k2 (by simpa [if_icmp.holds] using h))
theorem Go.icle (C : Cx p below m c cd T) {x y : Int32} {o : Int} {q : Nat} (d : Dec cd pc (.if_icmp .le o) 3 n) (ho : 0 ≤ (pc : Int) + o) (hp : ((pc : Int) + o).toNat = q)
    (k1 : ¬ y < x → Go p e below F T (mkF m q L r)) (k2 : y < x → Go p e below F T (mkF m n L r)) : Go p e below F T (mkF m pc L (.int y :: .int x :: r)) :=
  Go.icb C d ho hp (fun h => k1 (by simpa [if_icmp.holds] using h)) (fun h => k2 (by simpa [if_icmp.holds] using h))
theorem Go.ifnull_y (C : Cx p below m c cd T) {o : Int} {q : Nat} (d : Dec cd pc (.ifnull o) 3 n) (ho : 0 ≤ (pc : Int) + o) (hp : ((pc : Int) + o).toNat = q)
    (k : Go p e below F T (mkF m q L r)) : Go p e below F T (mkF m pc L (.null :: r)) := by
  obtain ⟨t, st, f⟩ := k; obtain ⟨d, rfl⟩ := d
  exact ⟨t, XS.ifnullYes C.1 C.2.1 rfl (pc0 := pc) rfl (hb C.2.2 d) rfl ho hp st, f⟩
theorem Go.ifnull_n (C : Cx p below m c cd T) {o : Int} {a : Addr} (d : Dec cd pc (.ifnull o) 3 n)
    (k : Go p e below F T (mkF m n L r)) : Go p e below F T (mkF m pc L (.ref a :: r)) := by
  obtain ⟨t, st, f⟩ := k; obtain ⟨d, rfl⟩ := d
  exact ⟨t, XS.ifnullNo C.1 C.2.1 rfl (hb C.2.2 d) rfl st, f⟩
theorem Go.ifnonnull_y (C : Cx p below m c cd T) {o : Int} {q : Nat} {a : Addr} (d : Dec cd pc (.ifnonnull o) 3 n) (ho : 0 ≤ (pc : Int) + o) (hp : ((pc : Int) + o).toNat = q)
    (k : Go p e below F T (mkF m q L r)) : Go p e below F T (mkF m pc L (.ref a :: r)) := by
  obtain ⟨t, st, f⟩ := k; obtain ⟨d, rfl⟩ := d
  exact ⟨t, XS.ifnonnullYes C.1 C.2.1 rfl (pc0 := pc) rfl (hb C.2.2 d) rfl ho hp st, f⟩
theorem Go.ifnonnull_n (C : Cx p below m c cd T) {o : Int} (d : Dec cd pc (.ifnonnull o) 3 n)
    (k : Go p e below F T (mkF m n L r)) : Go p e below F T (mkF m pc L (.null :: r)) := by
  obtain ⟨t, st, f⟩ := k; obtain ⟨d, rfl⟩ := d
  exact ⟨t, XS.ifnonnullNo C.1 C.2.1 rfl (hb C.2.2 d) rfl st, f⟩
end Plain
section Walk
/-- a walk stands at T, the heap h: over its own start s whose tables may have come to vm0; what xs names is the walk's own to write -/
def Wk (nw : Prop) (EL : List (String × Nat)) (n0 : Nat) (Z : State) (a0 : Array Value) (own nm : String) (cd : ByteArray) (ml : Nat) (ret : Option FieldType) (p : Program) (l : Launch) (e : Env) (R : Room) (s : State) (m : MethodId) (args : Array Value) (below : List Frame) (meth : Method) (c : Code) (T : State) (h : Heap) (xs : List Addr) (cells slots : Nat) : Prop :=
  ∃ (vm0 : Vm) (k0 : Nat) (locs : List Loc), Stand p l e R (s.setVm vm0) m args below meth c T locs cells slots ∧ T.heap = h ∧ s.Since vm0 k0 ∧ k0 ≤ h.size ∧ (nw → s.WarmedH vm0) ∧ Z.Warmed39 vm0 ∧ vm0.findClass own = some m.cls ∧ EW Z a0 EL ∧ CHr Z EL s.vm s.heap vm0 h ∧ Fr n0 locs ∧ Old Z n0 h ∧
    (∀ x ∈ xs, n0 ≤ x ∧ x < h.size ∧ Safe Z EL vm0 h x) ∧ p.tables.exec = Jvm.exec ∧ c.code = cd ∧ c.maxLocals = ml ∧ meth.sig.returnType = ret ∧ meth.locks = false ∧ meth.name = nm
/-- how a body's walk ends -/
def Endp (nw : Prop) (EL : List (String × Nat)) (n0 : Nat) (Z : State) (below : List Frame) (s : State) (kc ks : Nat) (Q : Option Value → Heap → Prop) (t : State) : Prop :=
  t.status = .running ∧ ∃ v Lc, Ended t below (.returned v) ∧ Q v t.heap ∧ Fr n0 Lc ∧ Old Z n0 t.heap ∧ CHr Z EL s.vm s.heap t.vm t.heap ∧ ReturnedEndW s (.returned v) t Lc kc ks ∧ (nw → s.WarmedH t.vm)
/-- a body's contract -/
def Ctr (nw : Prop) (EL : List (String × Nat)) (n0 : Nat) (Z : State) (xs : List Addr) (l : Launch) (y : MethodName) (bytes : ByteArray) (maxL : Nat) (ret : Option FieldType) (rm : Room) (as' : Array Value) (h : Heap) (Q : Option Value → Heap → Prop) : Prop :=
  ∀ ws, MetFree l y (head1 (Cond.code y bytes maxL ret :: ws) rm) (fun a U => a = as' ∧ U.heap = h ∧ Z.Warmed39 U.vm ∧ CHv Z EL U.vm h ∧ ∀ x ∈ xs, Safe Z EL U.vm h x) (fun _ _ _ _ _ => True)
    (fun _ U o U' => ∃ v Lc, o = .returned v ∧ Q v U'.heap ∧ Fr n0 Lc ∧ Old Z n0 U'.heap ∧ CHr Z EL U.vm U.heap U'.vm U'.heap ∧ ReturnedEndW U o U' Lc rm.cells rm.slots ∧ (nw → U.WarmedH U'.vm))
/-- a call that comes back -/
def Call (nw : Prop) (EL : List (String × Nat)) (n0 : Nat) (Z : State) (xs : List Addr) (l : Launch) (R : Room) (p : Program) (e : Env) (below : List Frame) (s : State) (args : Array Value) (y : MethodName) (len W : Nat) (as' : Array Value) (h : Heap) (kc ks : Nat) (Q : Option Value → Heap → Prop) : Prop :=
  ∀ vm0, Z.Warmed39 vm0 → CHv Z EL vm0 h → Old Z n0 h → (∀ x ∈ xs, n0 ≤ x ∧ x < h.size ∧ Safe Z EL vm0 h x) →
    BackS l R p e below (s.setVm vm0) args y len W (fun A a => a = as' ∧ A.U.heap = h ∧ A.cells + kc ≤ R.cells ∧ A.slots + ks ≤ R.slots)
      (fun A _ v B => ∃ Lc, Q v B.U.heap ∧ B.locs = A.locs ++ Lc ∧ B.cells = A.cells + kc ∧ B.slots = A.slots + ks ∧ Fr n0 Lc ∧ Old Z n0 B.U.heap ∧ CHr Z EL vm0 h B.U.vm B.U.heap ∧ (nw → (s.setVm vm0).WarmedH B.U.vm))
/-- what a body hands back: a value, or nothing -/
def RV (Q : Value → Heap → Prop) (v : Option Value) (h : Heap) : Prop := ∃ w, v = some w ∧ Q w h
def RN (Q : Heap → Prop) (v : Option Value) (h : Heap) : Prop := v = none ∧ Q h
variable {nw : Prop} {EL : List (String × Nat)} {n0 : Nat} {Z : State} {a0 : Array Value} {own nm : String} {cd : ByteArray} {ml : Nat} {ret : Option FieldType} {p : Program} {l : Launch} {e : Env} {R : Room} {s : State} {m : MethodId} {args : Array Value} {below : List Frame} {meth : Method} {c : Code} {T : State} {h : Heap} {xs : List Addr} {cells slots : Nat}
variable {F : State → Prop} {pc n : Nat} {L : Array Slot} {r : List Value}
theorem Wk.cx (W : Wk nw EL n0 Z a0 own nm cd ml ret p l e R s m args below meth c T h xs cells slots) : Cx p below m c cd T := by
  obtain ⟨vm0, k0, locs, X, eT, hS, hk, hn, hZ, ho, hE, hC, hF, hO, hxs, hx, hby, rest⟩ := W
  exact ⟨X.here, hx, hby⟩
theorem Wk.old (W : Wk nw EL n0 Z a0 own nm cd ml ret p l e R s m args below meth c T h xs cells slots) : Old Z n0 h := by
  obtain ⟨vm0, k0, locs, X, eT, hS, hk, hn, hZ, ho, hE, hC, hF, hO, hxs, rest⟩ := W
  exact hO
theorem Wk.ew (W : Wk nw EL n0 Z a0 own nm cd ml ret p l e R s m args below meth c T h xs cells slots) : EW Z a0 EL := by
  obtain ⟨vm0, k0, locs, X, eT, hS, hk, hn, hZ, ho, hE, rest⟩ := W
  exact hE
theorem old_le (hO : Old Z n0 h) : n0 ≤ h.size := hO.1 ▸ hO.2.1
theorem Wk.mine (W : Wk nw EL n0 Z a0 own nm cd ml ret p l e R s m args below meth c T h xs cells slots) {x : Addr} (hm : x ∈ xs) : n0 ≤ x ∧ x < h.size := by
  obtain ⟨vm0, k0, locs, X, eT, hS, hk, hn, hZ, ho, hE, hC, hF, hO, hxs, rest⟩ := W
  exact ⟨(hxs x hm).1, (hxs x hm).2.1⟩
theorem Wk.mono (W : Wk nw EL n0 Z a0 own nm cd ml ret p l e R s m args below meth c T h xs cells slots) {cells' slots' : Nat} (h1 : cells ≤ cells') (h2 : slots ≤ slots') : Wk nw EL n0 Z a0 own nm cd ml ret p l e R s m args below meth c T h xs cells' slots' := by
  obtain ⟨vm0, k0, locs, X, rest⟩ := W
  exact ⟨vm0, k0, locs, ⟨X.admits, X.cas, X.clock, X.frames, X.room, X.hears, X.method, X.code, X.here, X.tail, X.warmed, X.limits, X.bytes, X.same.mono h1 h2⟩, rest⟩
theorem Wk.less (W : Wk nw EL n0 Z a0 own nm cd ml ret p l e R s m args below meth c T h xs cells slots) {xs' : List Addr} (hs : ∀ x ∈ xs', x ∈ xs) : Wk nw EL n0 Z a0 own nm cd ml ret p l e R s m args below meth c T h xs' cells slots := by
  obtain ⟨vm0, k0, locs, X, eT, hS, hk, hn, hZ, ho, hE, hC, hF, hO, hxs, rest⟩ := W
  exact ⟨vm0, k0, locs, X, eT, hS, hk, hn, hZ, ho, hE, hC, hF, hO, fun x q => hxs x (hs x q), rest⟩
theorem Wk.exa (W : Wk nw EL n0 Z a0 own nm cd ml ret p l e R s m args below meth c T h xs cells slots) {x : Addr} {C : String} (E : Exa Z h x C) (hx : n0 ≤ x) (h1 : C ≠ "java/lang/String") (h2 : C ≠ "[B") : Wk nw EL n0 Z a0 own nm cd ml ret p l e R s m args below meth c T h (x :: xs) cells slots := by
  obtain ⟨vm0, k0, locs, X, eT, hS, hk, hn, hZ, ho, hE, hC, hF, hO, hxs, rest⟩ := W
  refine ⟨vm0, k0, locs, X, eT, hS, hk, hn, hZ, ho, hE, hC, hF, hO, fun y q => ?_, rest⟩
  rcases List.mem_cons.mp q with rfl | q
  · exact ⟨hx, E.lt, Safe.exa hZ.alike E h1 h2⟩
  · exact hxs y q
theorem Wk.arv (W : Wk nw EL n0 Z a0 own nm cd ml ret p l e R s m args below meth c T h xs cells slots) {x : Addr} {k : ClassId} {ty : FieldType} {z : Int32} {vs : List Value} {dv : Value} (E : Arv Z h x k ty z vs dv) (hx : n0 ≤ x) (h1 : ty ≠ .byte) : Wk nw EL n0 Z a0 own nm cd ml ret p l e R s m args below meth c T h (x :: xs) cells slots := by
  obtain ⟨vm0, k0, locs, X, eT, hS, hk, hn, hZ, ho, hE, hC, hF, hO, hxs, rest⟩ := W
  refine ⟨vm0, k0, locs, X, eT, hS, hk, hn, hZ, ho, hE, hC, hF, hO, fun y q => ?_, rest⟩
  rcases List.mem_cons.mp q with rfl | q
  · exact ⟨hx, E.lt, Safe.arv hZ.alike E h1⟩
  · exact hxs y q
/-- getfield -/
theorem Go.getf (W : Wk nw EL n0 Z a0 own nm cd ml ret p l e R s m args below meth c T h xs cells slots) {R0 O f ty : String} {ix : Nat} {a : Addr} {v : Value} (d : Dec cd pc (.getfield ix) 3 n) (w : (Cond.fieldLink own ix R0 f ty).before a0 Z = true) (via : Via Z R0 O f ty) (Fl : Fld Z h a O f ty v)
    (k : ∀ T', Wk nw EL n0 Z a0 own nm cd ml ret p l e R s m args below meth c T' h xs cells slots → Go p e below F T' (mkF m n L (v :: r))) : Go p e below F T (mkF m pc L (.ref a :: r)) := by
  obtain ⟨vm0, k0, locs, X, eT, hS, hk, hn, hZ, ho, hE, hC, hF, hO, hxs, hx, hby, rest⟩ := W
  obtain ⟨d, rfl⟩ := d
  obtain ⟨T', X', e', st⟩ := getF X hx hZ ho (host := "") (Or.inl w) via eT Fl (g := mkF m pc L (.ref a :: r)) rfl rfl (hb hby d)
  exact Go.st st (k T' ⟨vm0, k0, locs, X', e', hS, hk, hn, hZ, ho, hE, hC, hF, hO, hxs, hx, hby, rest⟩)
/-- getstatic -/
theorem Go.gets (W : Wk nw EL n0 Z a0 own nm cd ml ret p l e R s m args below meth c T h xs cells slots) {R0 O f ty : String} {ix : Nat} {v : Value} (d : Dec cd pc (.getstatic ix) 3 n) (w : (Cond.fieldLink own ix R0 f ty).before a0 Z = true) (via : Via Z R0 O f ty) (Fl : Sta Z Z.heap O f ty v)
    (k : ∀ T', Wk nw EL n0 Z a0 own nm cd ml ret p l e R s m args below meth c T' h xs cells slots → Go p e below F T' (mkF m n L (v :: r))) : Go p e below F T (mkF m pc L r) := by
  obtain ⟨vm0, k0, locs, X, eT, hS, hk, hn, hZ, ho, hE, hC, hF, hO, hxs, hx, hby, rest⟩ := W
  obtain ⟨d, rfl⟩ := d
  obtain ⟨T', X', e', st⟩ := getS (host := "") X hx hZ ho w via eT (Fl.ext hO.2) (g := mkF m pc L r) rfl (hb hby d)
  exact Go.st st (k T' ⟨vm0, k0, locs, X', e', hS, hk, hn, hZ, ho, hE, hC, hF, hO, hxs, hx, hby, rest⟩)
/-- putfield on an object of the walk's own -/
theorem Go.putf (W : Wk nw EL n0 Z a0 own nm cd ml ret p l e R s m args below meth c T h xs cells slots) {R0 O f ty C : String} {ix kk : Nat} {t : FieldType} {a : Addr} {v v' old : Value} (d : Dec cd pc (.putfield ix) 3 n) (w : (Cond.fieldLink own ix R0 f ty).before a0 Z = true) (via : Via Z R0 O f ty) (Fl : Fld Z h a O f ty old) (E : Exa Z h a C)
    (hl : (Cond.lays C O f ty).before a0 Z = true ∨ ((Cond.laysFinal C O f ty).before a0 Z = true ∧ own = O ∧ nm = "<init>")) (wi : (Cond.instantiable C kk).before a0 Z = true) (hty : parseFieldDescriptor ty = some t) (hnv : narrow t v = v') (hf : fits t v' = true) (ha : a ∈ xs)
    (k : ∀ T' h', Wk nw EL n0 Z a0 own nm cd ml ret p l e R s m args below meth c T' h' xs cells slots → Wr h h' a (RoadKit.slotOf Z O f ty) v' → Go p e below F T' (mkF m n L r)) : Go p e below F T (mkF m pc L (v :: .ref a :: r)) := by
  obtain ⟨vm0, k0, locs, X, eT, hS, hk, hn, hZ, ho, hE, hC, hF, hO, hxs, hx, hby, hml, hrt, hlk, hnm⟩ := W
  obtain ⟨d, rfl⟩ := d
  obtain ⟨T', h', X', e', Wr', st⟩ := putFN X hx hZ ho w via eT Fl E (hl.imp id fun q => ⟨q.1, q.2.1, hnm.trans q.2.2⟩) wi hty hnv hf (g := mkF m pc L (v :: .ref a :: r)) rfl rfl (hb hby d)
  have q := hxs a ha
  have C1 := CHr.wr Wr' q.2.2 hC.1
  have sz : h'.size = h.size := Wr'.size
  exact Go.st st (k T' h' ⟨vm0, k0, _, X', e', hS, by rw [sz]; exact hk, hn, hZ, ho, hE, hC.trans C1, Fr.snoc X' hF q.1, hO.wr Wr' q.1, fun x hm => ⟨(hxs x hm).1, by rw [sz]; exact (hxs x hm).2.1, C1.safe (hxs x hm).2.1 (hxs x hm).2.2⟩, hx, hby, hml, hrt, hlk, hnm⟩ Wr')
/-- new -/
theorem Go.new (W : Wk nw EL n0 Z a0 own nm cd ml ret p l e R s m args below meth c T h xs cells slots) {C : String} {ix kk cells' slots' : Nat} (d : Dec cd pc (.new ix) 3 n) (w : (Cond.classLink own ix C).before a0 Z = true) (wi : (Cond.instantiable C kk).before a0 Z = true) (wz : (Cond.initialized C).before a0 Z = true)
    (hc : cells + 1 = cells') (hs : slots + kk = slots') (hc' : cells' ≤ R.cells) (hs' : slots' ≤ R.slots)
    (k : ∀ T' h' a, a = h.size → Wk nw EL n0 Z a0 own nm cd ml ret p l e R s m args below meth c T' h' (a :: xs) cells' slots' → Ext h h' → Exa Z h' a C → (∀ {O f ty : String} {t : FieldType}, Laid Z a0 C O f ty → parseFieldDescriptor ty = some t → Fld Z h' a O f ty (defaultValue t)) → Go p e below F T' (mkF m n L (.ref a :: r))) : Go p e below F T (mkF m pc L r) := by
  obtain ⟨vm0, k0, locs, X, eT, hS, hk, hn, hZ, ho, hE, hC, hF, hO, hxs, hx, hby, rest⟩ := W
  obtain ⟨d, rfl⟩ := d
  subst hc hs
  obtain ⟨T', h', X', e', E, A, D, -, st⟩ := newO X hx hZ ho w wi wz eT (g := mkF m pc L r) rfl (hb hby d) hc' hs'
  have C1 := CHr.ext E hC.1
  refine Go.st st (k T' h' h.size rfl ⟨vm0, k0, locs, X', e', hS, Nat.le_trans hk E.1, hn, hZ, ho, hE, hC.trans C1, hF, hO.ext E, fun x hm => ?_, hx, hby, rest⟩ E A (fun l t => D l t))
  rcases List.mem_cons.mp hm with rfl | hm
  · exact ⟨old_le hO, A.lt, Safe.ext E hC.1 (Safe.new (Nat.le_refl _))⟩
  · exact ⟨(hxs x hm).1, Nat.lt_of_lt_of_le (hxs x hm).2.1 E.1, C1.safe (hxs x hm).2.1 (hxs x hm).2.2⟩
/-- newarray -/
theorem Go.newarr (W : Wk nw EL n0 Z a0 own nm cd ml ret p l e R s m args below meth c T h xs cells slots) {aty : ArrayType} {z : Int32} {cap cells' slots' : Nat} (d : Dec cd pc (.newarray aty) 2 n) (w : (Cond.arrayClass (newarray.typeOf aty)).before a0 Z = true)
    (hz : ¬ z < 0) (hcap : z.toNatClampNeg ≤ cap) (hbig : cap * 8 ≤ 536870912) (hc : cells + 1 = cells') (hs : slots + cap = slots') (hc' : cells' ≤ R.cells) (hs' : slots' ≤ R.slots)
    (k : ∀ T' h' a ka, a = h.size → Wk nw EL n0 Z a0 own nm cd ml ret p l e R s m args below meth c T' h' (a :: xs) cells' slots' → Ext h h' → Arv Z h' a ka (newarray.typeOf aty) z [] (defaultValue (newarray.typeOf aty)) → Go p e below F T' (mkF m n L (.ref a :: r))) : Go p e below F T (mkF m pc L (.int z :: r)) := by
  obtain ⟨vm0, k0, locs, X, eT, hS, hk, hn, hZ, ho, hE, hC, hF, hO, hxs, hx, hby, rest⟩ := W
  obtain ⟨d, rfl⟩ := d
  subst hc hs
  obtain ⟨T', h', cA, X', e', E, A, st⟩ := newP X hx hZ w eT (g := mkF m pc L (.int z :: r)) rfl (hb hby d) rfl hz hcap hbig hc' hs'
  have C1 := CHr.ext E hC.1
  refine Go.st st (k T' h' h.size cA rfl ⟨vm0, k0, locs, X', e', hS, Nat.le_trans hk E.1, hn, hZ, ho, hE, hC.trans C1, hF, hO.ext E, fun x hm => ?_, hx, hby, rest⟩ E (Arv.new A hz))
  rcases List.mem_cons.mp hm with rfl | hm
  · exact ⟨old_le hO, A.lt, Safe.ext E hC.1 (Safe.new (Nat.le_refl _))⟩
  · exact ⟨(hxs x hm).1, Nat.lt_of_lt_of_le (hxs x hm).2.1 E.1, C1.safe (hxs x hm).2.1 (hxs x hm).2.2⟩
/-- Object.<init> -/
theorem Go.initObj (W : Wk nw EL n0 Z a0 own nm cd ml ret p l e R s m args below meth c T h xs cells slots) {ix wt : Nat} {a : Addr} (d : Dec cd pc (.invokespecial ix) 3 n) (w1 : (Cond.methodLink own ix Lib.objectInit).before a0 Z = true) (w2 : (Cond.instanceMethod Lib.objectInit).before a0 Z = true) (w3 : (Cond.code Lib.objectInit ⟨#[0xb1]⟩ 1 none).before a0 Z = true)
    (hsz : L.size = ml) (hf : 1 ≤ R.frames) (hw : (r.map fun v => v.category).sum = wt) (hl : wt + 12 ≤ R.locals)
    (k : ∀ T', Wk nw EL n0 Z a0 own nm cd ml ret p l e R s m args below meth c T' h xs cells slots → Go p e below F T' (mkF m n L r)) : Go p e below F T (mkF m pc L (.ref a :: r)) := by
  obtain ⟨vm0, k0, locs, X, eT, hS, hk, hn, hZ, ho, hE, hC, hF, hO, hxs, hx, hby, hml, rest⟩ := W
  obtain ⟨d, rfl⟩ := d
  obtain ⟨T', X', e', st⟩ := initO X hx hZ ho w1 w2 w3 eT (g := mkF m pc L (.ref a :: r)) rfl (hsz.trans hml.symm) rfl (hb hby d) hf (W := wt) (by show 2 * 0 + _ ≤ _; omega) hl
  exact Go.st st (k T' ⟨vm0, k0, locs, X', e', hS, hk, hn, hZ, ho, hE, hC, hF, hO, hxs, hx, hby, hml, rest⟩)
/-- a char[] of the walk, its chars -/
def CArr (Z : State) (h : Heap) (a : Addr) (ka : ClassId) (cs : List Int32) : Prop := Arv Z h a ka .char (Int32.ofNat cs.length) (cs.map Value.int) (.int 0)
theorem CArr.lt {a : Addr} {ka : ClassId} {cs : List Int32} (A : CArr Z h a ka cs) : a < h.size := Arv.lt A
theorem CArr.ext {h' : Heap} {a : Addr} {ka : ClassId} {cs : List Int32} (A : CArr Z h a ka cs) (E : Ext h h') : CArr Z h' a ka cs := Arv.ext A E
theorem CArr.keep {h' : Heap} {a : Addr} {ka : ClassId} {cs : List Int32} {ws : List Addr} (A : CArr Z h a ka cs) (K : Keep h h' ws) (q : a ∉ ws) : CArr Z h' a ka cs := Arv.keep A K q
theorem clamp_nat {i : Nat} (h : i < 2 ^ 31) : (Int32.ofNat i).toNatClampNeg = i := LawKit.clamp_of rfl h
theorem CArr.of_new {a : Addr} {ka : ClassId} {z : Int32} (A : Arv Z h a ka .char z [] (.int 0)) {cs : List Int32} {k : Nat} (hc : cs = List.replicate k 0) (hz : z = Int32.ofNat k) : CArr Z h a ka cs := by
  subst hc hz
  unfold CArr
  rw [List.length_replicate, List.map_replicate]
  exact Arv.pad A (fun i => by simpa using pad_rep [] (.int 0) k i)
theorem in_of {i k : Nat} {z : Int32} (hz : z = Int32.ofNat k) (hi : i < k) (hk : k < 2 ^ 31) : ¬ (Int32.ofNat i) < 0 ∧ (Int32.ofNat i) < z := by
  subst hz
  rw [Int32.lt_iff_toInt_lt, Int32.lt_iff_toInt_lt, LawKit.toInt_of (n := Int32.ofNat i) rfl (by omega), LawKit.toInt_of (n := Int32.ofNat k) rfl hk]
  constructor
  · show ¬ (i : Int) < 0; omega
  · omega
/-- castore into a char[] of the walk's own -/
theorem Go.castore (W : Wk nw EL n0 Z a0 own nm cd ml ret p l e R s m args below meth c T h xs cells slots) {a : Addr} {ka : ClassId} {cs : List Int32} {j x x' : Int32} (i : Nat) (d : Dec cd pc .castore 1 n) (A : CArr Z h a ka cs) (ha : a ∈ xs) (hj : j = Int32.ofNat i) (hi : i < cs.length) (hlen : cs.length < 2 ^ 31) (hx' : nar .char x = x')
    (k : ∀ T' h', Wk nw EL n0 Z a0 own nm cd ml ret p l e R s m args below meth c T' h' xs cells slots → Keep h h' [a] → CArr Z h' a ka (cs.set i x') → Go p e below F T' (mkF m n L r)) : Go p e below F T (mkF m pc L (.int x :: .int j :: .ref a :: r)) := by
  obtain ⟨vm0, k0, locs, X, eT, hS, hk, hn, hZ, ho, hE, hC, hF, hO, hxs, hx, hby, rest⟩ := W
  obtain ⟨d, rfl⟩ := d
  subst hx' hj
  obtain ⟨cl, A1, q1, S1, M1, H1, U1⟩ := id A
  have hin := inb_of S1 (in_of rfl hi hlen)
  obtain ⟨T', h', X', e', Wr', st⟩ := stC X hx hZ eT A1 hin (g := mkF m pc L (.int x :: .int (Int32.ofNat i) :: .ref a :: r)) rfl rfl (hb hby d)
  have q := hxs a ha
  have C1 := CHr.wr Wr' q.2.2 hC.1
  have sz : h'.size = h.size := Wr'.size
  have A2 : CArr Z h' a ka (cs.set i (nar .char x)) := by
    have B := Arv.set A1 q1 S1 M1 H1 U1 (fits_nar_char x) Wr' i (clamp_nat (by omega)) (by simpa using hi)
    unfold CArr
    rw [List.length_set, List.map_set]
    exact B
  exact Go.st st (k T' h' ⟨vm0, k0, _, X', e', hS, by rw [sz]; exact hk, hn, hZ, ho, hE, hC.trans C1, Fr.snoc X' hF q.1, hO.wr Wr' q.1, fun x hm => ⟨(hxs x hm).1, by rw [sz]; exact (hxs x hm).2.1, C1.safe (hxs x hm).2.1 (hxs x hm).2.2⟩, hx, hby, rest⟩ (Keep.of_wr Wr') A2)
/-- caload -/
theorem Go.caload (W : Wk nw EL n0 Z a0 own nm cd ml ret p l e R s m args below meth c T h xs cells slots) {a : Addr} {ka : ClassId} {cs : List Int32} {j v : Int32} (i : Nat) (d : Dec cd pc .caload 1 n) (A : CArr Z h a ka cs) (hj : j = Int32.ofNat i) (hi : i < cs.length) (hlen : cs.length < 2 ^ 31) (hv : cs.getD i 0 = v)
    (k : Go p e below F T (mkF m n L (.int v :: r))) : Go p e below F T (mkF m pc L (.int j :: .ref a :: r)) := by
  obtain ⟨vm0, k0, locs, X, eT, hS, hk, hn, hZ, ho, hE, hC, hF, hO, hxs, hx, hby, rest⟩ := W
  obtain ⟨d, rfl⟩ := d
  subst hj
  obtain ⟨cl, A1, q1, S1, M1, H1, U1⟩ := id A
  have hin := inb_of S1 (in_of rfl hi hlen)
  have hat := Has.at (v := .int v) H1 hin (by rw [clamp_nat (by omega)]; simp only [List.getD_eq_getElem?_getD, List.getElem?_map] at hv ⊢; rw [List.getElem?_eq_getElem hi] at hv ⊢; simpa using hv)
  exact Go.st (fun t st => X.caload hx (by rw [eT]; exact A1.1) (State.isArrayOf_alike hZ.alike A1.2.1) A1.2.2 hin hat (g := mkF m pc L (.int (Int32.ofNat i) :: .ref a :: r)) rfl rfl (hb hby d) t st) k
/-- arraylength -/
theorem Go.alen (W : Wk nw EL n0 Z a0 own nm cd ml ret p l e R s m args below meth c T h xs cells slots) {a : Addr} {ka : ClassId} {ty : FieldType} {z : Int32} {vs : List Value} {dv : Value} (d : Dec cd pc .arraylength 1 n) (A : Arv Z h a ka ty z vs dv)
    (k : Go p e below F T (mkF m n L (.int z :: r))) : Go p e below F T (mkF m pc L (.ref a :: r)) := by
  obtain ⟨vm0, k0, locs, X, eT, hS, hk, hn, hZ, ho, hE, hC, hF, hO, hxs, hx, hby, rest⟩ := W
  obtain ⟨d, rfl⟩ := d
  obtain ⟨cl, A1, q1, S1, M1, H1, U1⟩ := id A
  have e1 := len_of S1 M1
  exact Go.st (fun t st => X.arraylength hx (by rw [eT]; exact A1.1) (State.isArrayOf_alike hZ.alike A1.2.1) (g := mkF m pc L (.ref a :: r)) rfl rfl (hb hby d) t (by rw [e1]; exact st)) k
/-- ldc of an int -/
theorem Go.ldcI (W : Wk nw EL n0 Z a0 own nm cd ml ret p l e R s m args below meth c T h xs cells slots) {ix : Nat} {v : Int32} (d : Dec cd pc (.ldc ix) 2 n) (w : (Cond.constant own ix v).before a0 Z = true)
    (k : Go p e below F T (mkF m n L (.int v :: r))) : Go p e below F T (mkF m pc L r) := by
  obtain ⟨vm0, k0, locs, X, eT, hS, hk, hn, hZ, ho, hE, hC, hF, hO, hxs, hx, hby, rest⟩ := W
  obtain ⟨d, rfl⟩ := d
  exact Go.st (fun t st => X.ldcInt hx ho (mv hZ w) (g := mkF m pc L r) rfl (hb hby d) t st) k
theorem Go.ldc2J (W : Wk nw EL n0 Z a0 own nm cd ml ret p l e R s m args below meth c T h xs cells slots) {ix : Nat} {v : Int64} (d : Dec cd pc (.ldc2_w ix) 3 n) (w : (Cond.constantLong own ix v).before a0 Z = true)
    (k : Go p e below F T (mkF m n L (.long v :: r))) : Go p e below F T (mkF m pc L r) := by
  obtain ⟨vm0, k0, locs, X, eT, hS, hk, hn, hZ, ho, hE, hC, hF, hO, hxs, hx, hby, rest⟩ := W
  obtain ⟨d, rfl⟩ := d
  exact Go.st (fun t st => X.ldc2Long hx ho (mv hZ w) (g := mkF m pc L r) rfl (hb hby d) t st) k
/-! the ends -/
theorem Go.fin (W : Wk nw EL n0 Z a0 own nm cd ml ret p l e R s m args below meth c T h xs cells slots) {kc ks : Nat} {Q : Option Value → Heap → Prop} {v : Option Value} {g : JFrame} (hc : cells ≤ kc) (hs : slots ≤ ks) (hQ : Q v h) (hv : ret = none → v = none)
    (st : ∀ vm0 locs fs, Stand p l e R (s.setVm vm0) m args below meth c T locs cells slots → p.tables.exec = Jvm.exec → c.code = cd → meth.sig.returnType = ret → (∀ (f : JFrame) (acts : List Action), f.method = m → f.locked = none → f.entered = [] → (doReturn e (T.setTop f) acts v).1 = T.setFrames fs) → Steps p.tables e below (T.setTop g) (T.setFrames fs)) :
    Go p e below (Endp nw EL n0 Z below s kc ks Q) T g := by
  obtain ⟨vm0, k0, locs, X, eT, hS, hk, hn, hZ, ho, hE, hC, hF, hO, hxs, hx, hby, hml, hrt, hlk, hnm⟩ := W
  obtain ⟨fs, hr, hrun, hended, r1, r2, r3, r4⟩ := X.leaveW hS (by rw [eT]; exact hk) (v := v) (fun q => hv (hrt ▸ q)) hlk
  have eh : (T.setFrames fs).heap = h := eT
  refine ⟨T.setFrames fs, st vm0 locs fs X hx hby hrt hr, hrun, v, locs, hended, by rw [eh]; exact hQ, hF, by rw [eh]; exact hO, ?_, ⟨r1, r2, r3, r4.mono hc hs⟩, fun q => ?_⟩
  · show CHr Z EL s.vm s.heap T.vm T.heap
    rw [eT]; exact hC.trans (CHv.at X hZ hE hC.1)
  · exact State.WarmedH.trans (t := s.setVm vm0) (hn q) X.warmed
theorem Go.iret (W : Wk nw EL n0 Z a0 own nm cd ml (some t) p l e R s m args below meth c T h xs cells slots) {kc ks : Nat} {Q : Option Value → Heap → Prop} {z : Int32} (d : Dec cd pc .ireturn 1 n) (ht : t = .int ∨ t = .boolean ∨ t = .byte ∨ t = .char ∨ t = .short) (hn : narrow t (.int z) = .int z) (hc : cells ≤ kc) (hs : slots ≤ ks) (hQ : Q (some (.int z)) h) :
    Go p e below (Endp nw EL n0 Z below s kc ks Q) T (mkF m pc L (.int z :: r)) :=
  Go.fin W hc hs hQ (fun q => nomatch q) (fun vm0 locs fs X hx hby hrt hr => retOut X hx hrt hn (Or.inl ⟨rfl, ht, z, rfl⟩) (hb hby d.1) hr)
theorem Go.aret (W : Wk nw EL n0 Z a0 own nm cd ml (some t) p l e R s m args below meth c T h xs cells slots) {kc ks : Nat} {Q : Option Value → Heap → Prop} {v : Value} (d : Dec cd pc .areturn 1 n) (ht : t.isReference = true) (hv : v.isRef = true) (hn : narrow t v = v) (hc : cells ≤ kc) (hs : slots ≤ ks) (hQ : Q (some v) h) :
    Go p e below (Endp nw EL n0 Z below s kc ks Q) T (mkF m pc L (v :: r)) :=
  Go.fin W hc hs hQ (fun q => nomatch q) (fun vm0 locs fs X hx hby hrt hr => retOut X hx hrt hn (Or.inr (Or.inr (Or.inr (Or.inr ⟨rfl, ht, hv⟩)))) (hb hby d.1) hr)
theorem Go.vret (W : Wk nw EL n0 Z a0 own nm cd ml none p l e R s m args below meth c T h xs cells slots) {kc ks : Nat} {Q : Option Value → Heap → Prop} (d : Dec cd pc .return_ 1 n) (hc : cells ≤ kc) (hs : slots ≤ ks) (hQ : Q none h) :
    Go p e below (Endp nw EL n0 Z below s kc ks Q) T (mkF m pc L []) :=
  Go.fin W hc hs hQ (fun _ => rfl) (fun vm0 locs fs X hx hby hrt hr => X.returnOut hx hrt (hb hby d.1) hr)
/-! contracts -/
theorem Ctr.body {y : MethodName} {bytes : ByteArray} {maxL : Nat} {rm : Room} {as' : Array Value} {Q : Option Value → Heap → Prop} {L0 : Array Slot} (hpn : plainFor y = true) (hE : EW Z a0 EL) (hO : Old Z n0 h) (hxs : ∀ x ∈ xs, n0 ≤ x ∧ x < h.size) (ef : ∀ m, entryFrame m as' maxL = mkF m 0 L0 [])
    (hB : ∀ p e s m below meth c T, Wk nw EL n0 Z a0 y.cls y.name bytes maxL ret p l e rm s m as' below meth c T h xs 0 0 → Go p e below (Endp nw EL n0 Z below s rm.cells rm.slots Q) T (mkF m 0 L0 [])) :
    Ctr nw EL n0 Z xs l y bytes maxL ret rm as' h Q := by
  intro ws
  refine MetFree.of_bodySF hpn hisR ?_
  intro p e s m args below meth c s₁ Bd hml hP hK
  obtain ⟨rfl, hh, hZ, hCH, hS⟩ := hP
  have X0 : Stand p l e rm s m args below meth c s₁ [] 0 0 := Stand.of_body Bd
  have e0 : s₁.heap = h := by rw [← hh, Bd.state]; rfl
  have W : Wk nw EL n0 Z a0 y.cls y.name bytes maxL ret p l e rm s m args below meth c s₁ h xs 0 0 :=
    ⟨s.vm, 0, [], X0, e0, (State.WarmedH.refl s).since 0, Nat.zero_le _, fun _ => State.WarmedH.refl s, hZ, findClass_of_methodNamed Bd.named, hE, by rw [hh]; exact CHr.refl hCH, Fr.nil n0, hO, fun x hm => ⟨(hxs x hm).1, (hxs x hm).2, hS x hm⟩, Bd.exec, Bd.bytes, hml, Bd.returns, Bd.notSynchronized, (name_of_methodNamed Bd.named Bd.method).1⟩
  obtain ⟨t, st, hrun, v, Lc, hend, q1, q2, q3, q4, q5, q6⟩ := hB p e s m below meth c s₁ W
  exact ⟨t, .returned v, castTop (ef m) st, hrun, hend, v, Lc, rfl, q1, q2, q3, q4, q5, q6⟩
theorem Ctr.call {y : MethodName} {bytes : ByteArray} {maxL : Nat} {rt : Option FieldType} {rm : Room} {as' : Array Value} {Q : Option Value → Heap → Prop} {xs' : List Addr} {wt len : Nat} (hM : Ctr nw EL n0 Z xs' l y bytes maxL rt rm as' h Q) (hE : EW Z a0 EL) (wc : (Cond.code y bytes maxL rt).before a0 Z = true) (wz : (Cond.initialized y.cls).before a0 Z = true)
    (hxs : ∀ x ∈ xs', x ∈ xs) (hf : rm.frames + 1 ≤ R.frames) (hl : wt + (maxL + 11) + rm.locals ≤ R.locals) : Call nw EL n0 Z xs l R p e below s args y len wt as' h rm.cells rm.slots Q := by
  intro vm0 hZ hCH hO hX
  refine BackS.of_freeW (bytes := bytes) (maxL := maxL) (ret := rt) (E := fun _ first o t Lc k n => k = rm.cells ∧ n = rm.slots ∧ (∃ v, o = .returned v ∧ Q v t.heap) ∧ Fr n0 Lc ∧ Old Z n0 t.heap ∧ CHr Z EL first.vm first.heap t.vm t.heap ∧ (nw → first.WarmedH t.vm)) (hM []) hf hl ?_ ?_ (fun _ _ _ _ _ _ _ _ _ => trivial) ?_ ?_
  · intro m meth c A a Y hp
    have hU : Z.Warmed39 A.U.vm := wtrans (s := s.setVm vm0) hZ Y.warmed
    exact ⟨by show (Cond.and _ .tt).before a A.U = true; rw [Cond.before_and, mv hU wc]; rfl, mv hU wc, mv hU wz, hp.2.2.1, hp.2.2.2⟩
  · intro m meth c A a g mk Y hp
    have K := CHv.at Y hZ hE hCH
    exact ⟨hp.1, hp.2.1, wtrans (s := s.setVm vm0) hZ Y.warmed, K.1, fun x hm => K.safe (hX x (hxs x hm)).2.1 (hX x (hxs x hm)).2.2⟩
  · rintro a first o t ⟨v, Lc, h1, h2, h3, h4, h5, h6, h7⟩
    exact ⟨Lc, _, _, h6, rfl, rfl, ⟨v, h1, h2⟩, h3, h4, h5, h7⟩
  · rintro m meth c A a g mk v t Lc k n Y hp hq hR ⟨e1, e2, ⟨v', e3, e4⟩, e5, e6, e7, e8⟩
    cases e3; subst e1 e2
    refine ⟨Lc, e4, rfl, rfl, rfl, e5, e6, (CHv.at Y hZ hE hCH).trans ?_, fun q => ?_⟩
    · rw [← hp.2.1]; exact e7
    · exact State.WarmedH.trans (t := (A.U.calling g mk a)) Y.warmed (e8 q)
theorem Call.of_back {y : MethodName} {as' : Array Value} {Q : Option Value → Heap → Prop} {Qb : Option Value → Heap → List Loc → Prop} {len wt kc ks : Nat} (hE : EW Z a0 EL)
    (hB : ∀ vm0, Z.Warmed39 vm0 → Old Z n0 h → Back l R p e below (s.setVm vm0) args y len wt (fun A a => a = as' ∧ A.U.heap = h ∧ A.cells + kc ≤ R.cells ∧ A.slots + ks ≤ R.slots) (fun A _ v B => ∃ Lc, Qb v B.U.heap Lc ∧ B.locs = A.locs ++ Lc ∧ B.cells = A.cells + kc ∧ B.slots = A.slots + ks))
    (hQ : ∀ v h' Lc, Old Z n0 h → Qb v h' Lc → Q v h' ∧ Fr n0 Lc ∧ ∃ ws, Keep h h' ws ∧ ∀ x ∈ ws, x ∈ xs) : Call nw EL n0 Z xs l R p e below s args y len wt as' h kc ks Q := by
  intro vm0 hZ hCH hO hX m meth c A g ig mk a X hg hsize hdg hW hn hp
  obtain ⟨v, B, X', ⟨Lc, q, r1, r2, r3⟩, st⟩ := hB vm0 hZ hO m meth c A g ig mk a X hg hsize hdg hW hn hp
  obtain ⟨hq, hF, ws, K, hws⟩ := hQ v _ Lc hO q
  have C1 : CHr Z EL vm0 h vm0 B.U.heap := CHr.keep K (fun x hm => (hX x (hws x hm)).2.2) hCH
  exact ⟨v, B, X'.retabled X'.warmed.wide, X'.warmed.since _, by rw [hp.2.1]; exact K.1, ⟨Lc, hq, r1, r2, r3, hF, hO.keep K (fun x hm => (hX x (hws x hm)).1), C1.trans (CHv.at X' hZ hE C1.1), fun _ => X'.warmed⟩, st⟩
theorem Call.mono {y : MethodName} {as' : Array Value} {Q : Option Value → Heap → Prop} {len wt kc ks kc' ks' : Nat} (hK : Call nw EL n0 Z xs l R p e below s args y len wt as' h kc ks Q) (h1 : kc ≤ kc') (h2 : ks ≤ ks') : Call nw EL n0 Z xs l R p e below s args y len wt as' h kc' ks' Q := by
  intro vm0 hZ hCH hO hX m meth c A g ig mk a X hg hsize hdg hW hn hp
  obtain ⟨v, B, X', hS, hg', ⟨Lc, q, r1, r2, r3, rest⟩, st⟩ := hK vm0 hZ hCH hO hX m meth c A g ig mk a X hg hsize hdg hW hn ⟨hp.1, hp.2.1, Nat.le_trans (Nat.add_le_add_left h1 _) hp.2.2.1, Nat.le_trans (Nat.add_le_add_left h2 _) hp.2.2.2⟩
  exact ⟨v, ⟨B.U, B.locs, A.cells + kc', A.slots + ks'⟩, ⟨X'.admits, X'.cas, X'.clock, X'.frames, X'.room, X'.hears, X'.method, X'.code, X'.here, X'.tail, X'.warmed, X'.limits, X'.bytes, X'.same.mono (by rw [r2]; exact Nat.add_le_add_left h1 _) (by rw [r3]; exact Nat.add_le_add_left h2 _)⟩, hS, hg', ⟨Lc, q, r1, rfl, rfl, rest⟩, st⟩
theorem Call.weaken {y : MethodName} {as' : Array Value} {Q Q' : Option Value → Heap → Prop} {len wt kc ks : Nat} (hK : Call nw EL n0 Z xs l R p e below s args y len wt as' h kc ks Q) (hq : ∀ v h', Q v h' → Q' v h') : Call nw EL n0 Z xs l R p e below s args y len wt as' h kc ks Q' := by
  intro vm0 hZ hCH hO hX m meth c A g ig mk a X hg hsize hdg hW hn hp
  obtain ⟨v, B, X', hS, hg', ⟨Lc, q, rest⟩, st⟩ := hK vm0 hZ hCH hO hX m meth c A g ig mk a X hg hsize hdg hW hn hp
  exact ⟨v, B, X', hS, hg', ⟨Lc, hq _ _ q, rest⟩, st⟩
theorem Wk.after {vm0 k0 locs} (X : Stand p l e R (s.setVm vm0) m args below meth c T locs cells slots) (eT : T.heap = h) (hS : s.Since vm0 k0) (hk : k0 ≤ h.size) (hn : nw → s.WarmedH vm0) (hZ : Z.Warmed39 vm0) (ho : vm0.findClass own = some m.cls) (hE : EW Z a0 EL) (hC : CHr Z EL s.vm s.heap vm0 h) (hF : Fr n0 locs) (hO : Old Z n0 h) (hxs : ∀ x ∈ xs, n0 ≤ x ∧ x < h.size ∧ Safe Z EL vm0 h x)
    (rest : p.tables.exec = Jvm.exec ∧ c.code = cd ∧ c.maxLocals = ml ∧ meth.sig.returnType = ret ∧ meth.locks = false ∧ meth.name = nm) {B : Pt} {kc ks : Nat} {Lc : List Loc} (X' : Stand p l e R ((s.setVm vm0).setVm B.U.vm) m args below meth c B.U B.locs B.cells B.slots) (hS2 : (s.setVm vm0).Since B.U.vm B.U.heap.size) (hg : T.heap.size ≤ B.U.heap.size)
    (r1 : B.locs = locs ++ Lc) (r2 : B.cells = cells + kc) (r3 : B.slots = slots + ks) (hF' : Fr n0 Lc) (hO' : Old Z n0 B.U.heap) (hC' : CHr Z EL vm0 h B.U.vm B.U.heap) (hn' : nw → (s.setVm vm0).WarmedH B.U.vm) :
    Wk nw EL n0 Z a0 own nm cd ml ret p l e R s m args below meth c B.U B.U.heap xs (cells + kc) (slots + ks) := by
  rw [r1, r2, r3] at X'
  exact ⟨B.U.vm, B.U.heap.size, _, X', rfl, hS.trans hS2 (Nat.le_trans hk (eT ▸ hg)), Nat.le_refl _, fun q => State.WarmedH.trans (t := s.setVm vm0) (hn q) (hn' q), State.Warmed39.trans (t := s.setVm vm0) hZ hS2.1, (hS2.1.alike.findClass _ _).trans ho, hE, hC.trans hC', hF.app hF', hO', fun x hm => ⟨(hxs x hm).1, Nat.lt_of_lt_of_le (hxs x hm).2.1 (eT ▸ hg), hC'.safe (hxs x hm).2.1 (hxs x hm).2.2⟩, rest⟩
/-- invokestatic by a contract -/
theorem Go.invs (W : Wk nw EL n0 Z a0 own nm cd ml ret p l e R s m args below meth c T h xs cells slots) {y : MethodName} {bytes : ByteArray} {maxL ix wt kc ks cells' slots' : Nat} {rt : Option FieldType} {argsL rest st0 : List Value} {Q : Option Value → Heap → Prop} {ps : List FieldType} {pr : Option FieldType} (hK : Call nw EL n0 Z xs l R p e below s args y 3 wt argsL.toArray h kc ks Q) (d : Dec cd pc (.invokestatic ix) 3 n)
    (w1 : (Cond.methodLink own ix y).before a0 Z = true) (w2 : (Cond.static y).before a0 Z = true) (w3 : (Cond.initialized y.cls).before a0 Z = true) (w4 : (Cond.code y bytes maxL rt).before a0 Z = true) (hy : y.cls ≠ "java/lang/invoke/MethodHandle" ∧ y.cls ≠ "java/lang/invoke/VarHandle")
    (hpd : parseMethodDescriptor y.desc = some ⟨ps, pr⟩) (hlen : argsL.length = ps.length) (hsz : L.size = ml) (hst : st0 = argsL.reverse ++ rest) (hw : (rest.map fun v => v.category).sum ≤ wt) (hc : cells + kc = cells') (hs : slots + ks = slots') (hc' : cells' ≤ R.cells) (hs' : slots' ≤ R.slots)
    (k : ∀ T' h' v, Wk nw EL n0 Z a0 own nm cd ml ret p l e R s m args below meth c T' h' xs cells' slots' → h.size ≤ h'.size → Q v h' → Go p e below F T' (mkF m n L (v.toList ++ rest))) : Go p e below F T (mkF m pc L st0) := by
  obtain ⟨vm0, k0, locs, X, eT, hS, hk, hn, hZ, ho, hE, hC, hF, hO, hxs, hx, hby, hml, rst⟩ := W
  obtain ⟨d, rfl⟩ := d
  subst hc hs hst
  obtain ⟨v, vm₁, B, hW1, X', hS2, hg, ⟨Lc, hq, r1, r2, r3, hF', hO', hC', hn'⟩, st⟩ := callSS X hx ho (mv hZ w1) (mv hZ w2) (mv hZ w3) (mv hZ w4) hy (hK vm0 hZ hC.1 hO hxs) (g := mkF m pc L (argsL.reverse ++ rest)) rfl (hsz.trans hml.symm) (argsL := argsL) (rest := rest) (lenOf hpd hlen) rfl (by show 2 * 0 + _ ≤ _; omega) (hb hby d) (fun _ _ => ⟨rfl, eT, hc', hs'⟩)
  exact Go.run st (k B.U B.U.heap v (Wk.after X eT hS hk hn hZ ho hE hC hF hO hxs ⟨hx, hby, hml, rst⟩ X' hS2 hg r1 r2 r3 hF' hO' hC' hn') (eT ▸ hg) hq)
/-- a constructor by a contract -/
theorem Go.invi (W : Wk nw EL n0 Z a0 own nm cd ml ret p l e R s m args below meth c T h xs cells slots) {y : MethodName} {bytes : ByteArray} {maxL ix wt kc ks cells' slots' : Nat} {argsL rest st0 : List Value} {b : Addr} {Q : Heap → Prop} {ps : List FieldType} {pr : Option FieldType} (hK : Call nw EL n0 Z xs l R p e below s args y 3 wt (.ref b :: argsL).toArray h kc ks (RN Q)) (d : Dec cd pc (.invokespecial ix) 3 n)
    (hy1 : y.name = "<init>") (w1 : (Cond.methodLink own ix y).before a0 Z = true) (w2 : (Cond.instanceMethod y).before a0 Z = true) (w4 : (Cond.code y bytes maxL none).before a0 Z = true) (hy : y.cls ≠ "java/lang/invoke/MethodHandle" ∧ y.cls ≠ "java/lang/invoke/VarHandle")
    (hpd : parseMethodDescriptor y.desc = some ⟨ps, pr⟩) (hlen : argsL.length = ps.length) (hsz : L.size = ml) (hst : st0 = argsL.reverse ++ .ref b :: rest) (hw : (rest.map fun v => v.category).sum ≤ wt) (hc : cells + kc = cells') (hs : slots + ks = slots') (hc' : cells' ≤ R.cells) (hs' : slots' ≤ R.slots)
    (k : ∀ T' h', Wk nw EL n0 Z a0 own nm cd ml ret p l e R s m args below meth c T' h' xs cells' slots' → h.size ≤ h'.size → Q h' → Go p e below F T' (mkF m n L rest)) : Go p e below F T (mkF m pc L st0) := by
  obtain ⟨vm0, k0, locs, X, eT, hS, hk, hn, hZ, ho, hE, hC, hF, hO, hxs, hx, hby, hml, rst⟩ := W
  obtain ⟨d, rfl⟩ := d
  subst hc hs hst
  obtain ⟨v, vm₁, B, hW1, X', hS2, hg, ⟨Lc, hq, r1, r2, r3, hF', hO', hC', hn'⟩, st⟩ := X.specialBackS hx hy1 ho (mv hZ w1) (mv hZ w2) (mv hZ w4) hy (hK vm0 hZ hC.1 hO hxs) (g := mkF m pc L (argsL.reverse ++ .ref b :: rest)) rfl (hsz.trans hml.symm) (Steps.refl _) (a := b) (argsL := argsL) (rest := rest) (lenOf hpd hlen) rfl (by show 2 * 0 + _ ≤ _; omega) (hb hby d) (fun _ _ => ⟨rfl, eT, hc', hs'⟩)
  obtain ⟨rfl, hq⟩ := hq
  exact Go.run st (k B.U B.U.heap (Wk.after X eT hS hk hn hZ ho hE hC hF hO hxs ⟨hx, hby, hml, rst⟩ X' hS2 hg r1 r2 r3 hF' hO' hC' hn') (eT ▸ hg) hq)
/-- invokevirtual by a contract -/
theorem Go.invv (W : Wk nw EL n0 Z a0 own nm cd ml ret p l e R s m args below meth c T h xs cells slots) {y z : MethodName} {C : String} {ix wt kc ks cells' slots' : Nat} {argsL rest st0 : List Value} {b : Addr} {Q : Option Value → Heap → Prop} {ps : List FieldType} {pr : Option FieldType} (hK : Call nw EL n0 Z xs l R p e below s args z 3 wt (.ref b :: argsL).toArray h kc ks Q) (d : Dec cd pc (.invokevirtual ix) 3 n)
    (w1 : (Cond.methodLink own ix y).before a0 Z = true) (w2 : (Cond.declares y).before a0 Z = true) (w3 : (Cond.selects C y z).before a0 Z = true) (w4 : (Cond.instanceMethod z).before a0 Z = true) (hy : y.cls ≠ "java/lang/invoke/MethodHandle" ∧ y.cls ≠ "java/lang/invoke/VarHandle") (E : Exa Z h b C)
    (hpd : parseMethodDescriptor y.desc = some ⟨ps, pr⟩) (hlen : argsL.length = ps.length) (hsz : L.size = ml) (hst : st0 = argsL.reverse ++ .ref b :: rest) (hw : (rest.map fun v => v.category).sum ≤ wt) (hc : cells + kc = cells') (hs : slots + ks = slots') (hc' : cells' ≤ R.cells) (hs' : slots' ≤ R.slots)
    (hnf : ∀ vm0, Z.Warmed39 vm0 → NotFace (s.setVm vm0) y)
    (k : ∀ T' h' v, Wk nw EL n0 Z a0 own nm cd ml ret p l e R s m args below meth c T' h' xs cells' slots' → h.size ≤ h'.size → Q v h' → Go p e below F T' (mkF m n L (v.toList ++ rest))) : Go p e below F T (mkF m pc L st0) := by
  obtain ⟨vm0, k0, locs, X, eT, hS, hk, hn, hZ, ho, hE, hC, hF, hO, hxs, hx, hby, hml, rst⟩ := W
  obtain ⟨d, rfl⟩ := d
  subst hc hs hst
  obtain ⟨cq, kq, qa, qb, qc⟩ := isOf (s := s.setVm vm0) hZ eT E
  obtain ⟨v, vm₁, B, hW1, X', hS2, hg, ⟨Lc, hq, r1, r2, r3, hF', hO', hC', hn'⟩, st⟩ := X.virtualBackS hx ho (mv hZ w1) (mv hZ w2) (hnf vm0 hZ) (mv hZ w3) (mv hZ w4) hy (hK vm0 hZ hC.1 hO hxs) qa qc (g := mkF m pc L (argsL.reverse ++ .ref b :: rest)) rfl (hsz.trans hml.symm) (Steps.refl _) (argsL := argsL) (rest := rest) (lenOf hpd hlen) rfl (by show 2 * 0 + _ ≤ _; omega) (hb hby d) (fun _ _ => ⟨rfl, eT, hc', hs'⟩)
  exact Go.run st (k B.U B.U.heap v (Wk.after X eT hS hk hn hZ ho hE hC hF hO hxs ⟨hx, hby, hml, rst⟩ X' hS2 hg r1 r2 r3 hF' hO' hC' hn') (eT ▸ hg) hq)

theorem Go.invs1 (W : Wk nw EL n0 Z a0 own nm cd ml ret p l e R s m args below meth c T h xs cells slots) {y : MethodName} {bytes : ByteArray} {maxL ix wt kc ks cells' slots' : Nat} {rt : Option FieldType} {argsL rest st0 : List Value} {Q : Value → Heap → Prop} {ps : List FieldType} {pr : Option FieldType} (hK : Call nw EL n0 Z xs l R p e below s args y 3 wt argsL.toArray h kc ks (RV Q)) (d : Dec cd pc (.invokestatic ix) 3 n)
    (w1 : (Cond.methodLink own ix y).before a0 Z = true) (w2 : (Cond.static y).before a0 Z = true) (w3 : (Cond.initialized y.cls).before a0 Z = true) (w4 : (Cond.code y bytes maxL rt).before a0 Z = true) (hy : y.cls ≠ "java/lang/invoke/MethodHandle" ∧ y.cls ≠ "java/lang/invoke/VarHandle")
    (hpd : parseMethodDescriptor y.desc = some ⟨ps, pr⟩) (hlen : argsL.length = ps.length) (hsz : L.size = ml) (hst : st0 = argsL.reverse ++ rest) (hw : (rest.map fun v => v.category).sum ≤ wt) (hc : cells + kc = cells') (hs : slots + ks = slots') (hc' : cells' ≤ R.cells) (hs' : slots' ≤ R.slots)
    (k : ∀ T' h' v, Wk nw EL n0 Z a0 own nm cd ml ret p l e R s m args below meth c T' h' xs cells' slots' → h.size ≤ h'.size → Q v h' → Go p e below F T' (mkF m n L (v :: rest))) : Go p e below F T (mkF m pc L st0) :=
  Go.invs W hK d w1 w2 w3 w4 hy hpd hlen hsz hst hw hc hs hc' hs' (fun T' h' v W' g q => by obtain ⟨w, rfl, q⟩ := q; exact k T' h' w W' g q)
theorem Go.invs0 (W : Wk nw EL n0 Z a0 own nm cd ml ret p l e R s m args below meth c T h xs cells slots) {y : MethodName} {bytes : ByteArray} {maxL ix wt kc ks cells' slots' : Nat} {rt : Option FieldType} {argsL rest st0 : List Value} {Q : Heap → Prop} {ps : List FieldType} {pr : Option FieldType} (hK : Call nw EL n0 Z xs l R p e below s args y 3 wt argsL.toArray h kc ks (RN Q)) (d : Dec cd pc (.invokestatic ix) 3 n)
    (w1 : (Cond.methodLink own ix y).before a0 Z = true) (w2 : (Cond.static y).before a0 Z = true) (w3 : (Cond.initialized y.cls).before a0 Z = true) (w4 : (Cond.code y bytes maxL rt).before a0 Z = true) (hy : y.cls ≠ "java/lang/invoke/MethodHandle" ∧ y.cls ≠ "java/lang/invoke/VarHandle")
    (hpd : parseMethodDescriptor y.desc = some ⟨ps, pr⟩) (hlen : argsL.length = ps.length) (hsz : L.size = ml) (hst : st0 = argsL.reverse ++ rest) (hw : (rest.map fun v => v.category).sum ≤ wt) (hc : cells + kc = cells') (hs : slots + ks = slots') (hc' : cells' ≤ R.cells) (hs' : slots' ≤ R.slots)
    (k : ∀ T' h', Wk nw EL n0 Z a0 own nm cd ml ret p l e R s m args below meth c T' h' xs cells' slots' → h.size ≤ h'.size → Q h' → Go p e below F T' (mkF m n L rest)) : Go p e below F T (mkF m pc L st0) :=
  Go.invs W hK d w1 w2 w3 w4 hy hpd hlen hsz hst hw hc hs hc' hs' (fun T' h' v W' g q => by obtain ⟨rfl, q⟩ := q; exact k T' h' W' g q)
theorem Go.invv1 (W : Wk nw EL n0 Z a0 own nm cd ml ret p l e R s m args below meth c T h xs cells slots) {y : MethodName} {C : String} {ix wt kc ks cells' slots' : Nat} {argsL rest st0 : List Value} {b : Addr} {Q : Value → Heap → Prop} {ps : List FieldType} {pr : Option FieldType} (hK : Call nw EL n0 Z xs l R p e below s args y 3 wt (.ref b :: argsL).toArray h kc ks (RV Q)) (d : Dec cd pc (.invokevirtual ix) 3 n)
    (w1 : (Cond.methodLink own ix y).before a0 Z = true) (w2 : (Cond.declares y).before a0 Z = true) (w3 : (Cond.selects C y y).before a0 Z = true) (w4 : (Cond.instanceMethod y).before a0 Z = true) (hy : y.cls ≠ "java/lang/invoke/MethodHandle" ∧ y.cls ≠ "java/lang/invoke/VarHandle") (E : Exa Z h b C)
    (hpd : parseMethodDescriptor y.desc = some ⟨ps, pr⟩) (hlen : argsL.length = ps.length) (hsz : L.size = ml) (hst : st0 = argsL.reverse ++ .ref b :: rest) (hw : (rest.map fun v => v.category).sum ≤ wt) (hc : cells + kc = cells') (hs : slots + ks = slots') (hc' : cells' ≤ R.cells) (hs' : slots' ≤ R.slots)
    (k : ∀ T' h' v, Wk nw EL n0 Z a0 own nm cd ml ret p l e R s m args below meth c T' h' xs cells' slots' → h.size ≤ h'.size → Q v h' → Go p e below F T' (mkF m n L (v :: rest))) : Go p e below F T (mkF m pc L st0) :=
  Go.invv W hK d w1 w2 w3 w4 hy E hpd hlen hsz hst hw hc hs hc' hs' (fun _ hZ => notFace_of_selects (args := #[]) (mvT hZ w3)) (fun T' h' v W' g q => by obtain ⟨w, rfl, q⟩ := q; exact k T' h' w W' g q)
theorem Go.invv0 (W : Wk nw EL n0 Z a0 own nm cd ml ret p l e R s m args below meth c T h xs cells slots) {y : MethodName} {C : String} {ix wt kc ks cells' slots' : Nat} {argsL rest st0 : List Value} {b : Addr} {Q : Heap → Prop} {ps : List FieldType} {pr : Option FieldType} (hK : Call nw EL n0 Z xs l R p e below s args y 3 wt (.ref b :: argsL).toArray h kc ks (RN Q)) (d : Dec cd pc (.invokevirtual ix) 3 n)
    (w1 : (Cond.methodLink own ix y).before a0 Z = true) (w2 : (Cond.declares y).before a0 Z = true) (w3 : (Cond.selects C y y).before a0 Z = true) (w4 : (Cond.instanceMethod y).before a0 Z = true) (hy : y.cls ≠ "java/lang/invoke/MethodHandle" ∧ y.cls ≠ "java/lang/invoke/VarHandle") (E : Exa Z h b C)
    (hpd : parseMethodDescriptor y.desc = some ⟨ps, pr⟩) (hlen : argsL.length = ps.length) (hsz : L.size = ml) (hst : st0 = argsL.reverse ++ .ref b :: rest) (hw : (rest.map fun v => v.category).sum ≤ wt) (hc : cells + kc = cells') (hs : slots + ks = slots') (hc' : cells' ≤ R.cells) (hs' : slots' ≤ R.slots)
    (k : ∀ T' h', Wk nw EL n0 Z a0 own nm cd ml ret p l e R s m args below meth c T' h' xs cells' slots' → h.size ≤ h'.size → Q h' → Go p e below F T' (mkF m n L rest)) : Go p e below F T (mkF m pc L st0) :=
  Go.invv W hK d w1 w2 w3 w4 hy E hpd hlen hsz hst hw hc hs hc' hs' (fun _ hZ => notFace_of_selects (args := #[]) (mvT hZ w3)) (fun T' h' v W' g q => by obtain ⟨rfl, q⟩ := q; exact k T' h' W' g q)
end Walk
section Strs
variable {Z : State} {h h' : Heap} {a : Addr} {cs : List Int32}
/-- a Latin-1 String and its chars -/
def Str (Z : State) (h : Heap) (a : Addr) (cs : List Int32) : Prop := Exa Z h a "java/lang/String" ∧ Fld Z h a "java/lang/String" "coder" "B" (.int 0) ∧ (∃ (b : Addr) (k : ClassId), Fld Z h a "java/lang/String" "value" "[B" (.ref b) ∧ Arv Z h b k .byte (Int32.ofNat cs.length) ((cs.map fun c => c.toInt8.toInt32).map Value.int) (.int 0)) ∧ (∀ c ∈ cs, ¬ c < 0 ∧ ¬ (255 : Int32) < c) ∧ cs.length ≤ 4000
theorem Str.exa (S : Str Z h a cs) : Exa Z h a "java/lang/String" := S.1
theorem Str.lt (S : Str Z h a cs) : a < h.size := S.1.lt
theorem Str.ext (S : Str Z h a cs) (E : Ext h h') : Str Z h' a cs := by
  obtain ⟨h1, h2, ⟨b, k, h3, h4⟩, r⟩ := S
  exact ⟨h1.ext E, h2.ext E, ⟨b, k, h3.ext E, h4.ext E⟩, r⟩
/-- over the writing of cells made since h0 -/
theorem ext_trans {h0 : Heap} (E : Ext h0 h) (E' : Ext h h') : Ext h0 h' := ⟨Nat.le_trans E.1 E'.1, fun x c q => E'.2 x c (E.2 x c q)⟩
theorem ext_refl (h : Heap) : Ext h h := ⟨Nat.le_refl _, fun _ _ q => q⟩
theorem ext_eq (e : h' = h) : Ext h h' := e ▸ ext_refl h
theorem ext_keep {h0 : Heap} {ws : List Addr} (E : Ext h0 h) (K : Keep h h' ws) (q : ∀ x ∈ ws, h0.size ≤ x) : Ext h0 h' :=
  ⟨Nat.le_trans E.1 K.1, fun x c r => K.2.1 x c (E.2 x c r) fun z => absurd (Array.getElem?_eq_some_iff.mp r).1 (Nat.not_lt.mpr (q x z))⟩
theorem keep_ext (E : Ext h h') : Keep h h' [] := (Keep.refl h []).ext E
/-- a String just made, not yet built -/
def NewS (Z : State) (h : Heap) (a : Addr) : Prop := Exa Z h a "java/lang/String" ∧ Fld Z h a "java/lang/String" "value" "[B" .null ∧ Fld Z h a "java/lang/String" "coder" "B" (.int 0)
theorem NewS.ext (S : NewS Z h a) (E : Ext h h') : NewS Z h' a := ⟨S.1.ext E, S.2.1.ext E, S.2.2.ext E⟩
theorem NewS.keep {ws : List Addr} (S : NewS Z h a) (K : Keep h h' ws) (q : a ∉ ws) : NewS Z h' a := ⟨S.1.keep K, S.2.1.keep K q, S.2.2.keep K q⟩
theorem nar_ok (x : Int32) : nar .char (x &&& 255) = x &&& 255 := i2c_mask x
theorem b255 (x : Int32) : ¬ (x &&& 255) < 0 ∧ ¬ (255 : Int32) < (x &&& 255) := by
  have t : ∀ k : Fin 256, ¬ (Int32.ofNat k.val) < 0 ∧ ¬ (255 : Int32) < (Int32.ofNat k.val) := by decide +kernel
  have h : (x &&& 255).toBitVec.toNat < 256 := by
    simp only [Int32.toBitVec_and, BitVec.toNat_and]
    exact Nat.lt_succ_of_le Nat.and_le_right
  have e : (x &&& 255) = Int32.ofNat (x &&& 255).toBitVec.toNat := by
    apply Int32.toBitVec_inj.mp
    show _ = BitVec.ofNat 32 _
    rw [BitVec.ofNat_toNat]; simp
  rw [e]
  exact t ⟨_, h⟩
theorem up_chars (cs : List Int32) (h : ∀ c ∈ cs, ¬ c < 0 ∧ ¬ (255 : Int32) < c) : ∀ c ∈ cs, ¬ c < 0 ∧ ¬ (65535 : Int32) < c := fun c hc => ⟨(h c hc).1, fun q => (h c hc).2 (by rw [Int32.lt_iff_toInt_lt] at q ⊢; have e1 : (65535 : Int32).toInt = 65535 := rfl; have e2 : (255 : Int32).toInt = 255 := rfl; omega)⟩
theorem all_nil {P : Int32 → Prop} : ∀ c ∈ ([] : List Int32), P c := fun _ q => nomatch q
theorem all_cons {P : Int32 → Prop} {x : Int32} {xs : List Int32} (h : P x) (r : ∀ c ∈ xs, P c) : ∀ c ∈ x :: xs, P c := fun c q => (List.mem_cons.mp q).elim (fun u => u ▸ h) (r c)
end Strs
section Ldc
variable {nw : Prop} {EL : List (String × Nat)} {n0 : Nat} {Z : State} {a0 : Array Value} {own nm : String} {cd : ByteArray} {ml : Nat} {ret : Option FieldType} {p : Program} {l : Launch} {e : Env} {R : Room} {s : State} {m : MethodId} {args : Array Value} {below : List Frame} {meth : Method} {c : Code} {T : State} {h : Heap} {xs : List Addr} {cells slots : Nat}
variable {F : State → Prop} {pc n : Nat} {L : Array Slot} {r : List Value}
/-- ldc of a String constant whose text is read -/
theorem Go.ldcS (W : Wk nw EL n0 Z a0 own nm cd ml ret p l e R s m args below meth c T h xs cells slots) {text : String} {ix nn cells' slots' : Nat} {cs : List Int32} (hnw : ¬ nw) (d : Dec cd pc (.ldc ix) 2 n) (w : (Cond.stringLink own ix text).before a0 Z = true) (wS : ∀ a ∈ Bundle.stringAtoms, a.before a0 Z = true) (hmem : (own, ix) ∈ EL)
    (ht : (∀ c ∈ text.toList, c.toNat < 256) ∧ text.toList.map (fun c => Value.int (Jvm.Lit.byteI c.toNat.toUInt16)) = ((cs.map fun c => c.toInt8.toInt32).map Value.int)) (hp : ∀ c ∈ cs, ¬ c < 0 ∧ ¬ (255 : Int32) < c) (hl4 : cs.length ≤ 4000) (hnn : 4 * text.toList.length ≤ nn) (hbig : nn ≤ 536870912) (hc : cells + 2 = cells') (hs : slots + (nn + 4) = slots') (hc' : cells' ≤ R.cells) (hs' : slots' ≤ R.slots)
    (k : ∀ T' h' a b kb, Wk nw EL n0 Z a0 own nm cd ml ret p l e R s m args below meth c T' h' xs cells' slots' → Ext h h' → Exa Z h' a "java/lang/String" → Fld Z h' a "java/lang/String" "coder" "B" (.int 0) → Fld Z h' a "java/lang/String" "value" "[B" (.ref b) → Arv Z h' b kb .byte (Int32.ofNat cs.length) ((cs.map fun c => c.toInt8.toInt32).map Value.int) (.int 0) → (∀ x ∈ xs, x ≠ a ∧ x ≠ b) → Str Z h' a cs → Go p e below F T' (mkF m n L (.ref a :: r))) : Go p e below F T (mkF m pc L r) := by
  obtain ⟨vm0, k0, locs, X, eT, hS, hk, hn, hZ, ho, hE, hC, hF, hO, hxs, hx, hby, rest⟩ := W
  obtain ⟨d, rfl⟩ := d
  subst hc hs
  have hz := in_of (i := 0) (k := cs.length + 1) rfl (by omega) (by omega)
  have hl : (Int32.ofNat cs.length).toNatClampNeg = ((cs.map fun c => c.toInt8.toInt32).map Value.int).length := by rw [clamp_nat (by omega)]; simp
  obtain ⟨a, T', h', k1, b, kb, X', e', E, hS', hk', hZ', ho', A1, A2, A3, A4, -, -, C1, -, hne, st⟩ := ldcCH X hx hZ ho w wS eT hS hk hE hmem hC.1 ht (by rw [Int32.lt_iff_toInt_lt, LawKit.toInt_of (n := Int32.ofNat cs.length) rfl (by omega)]; show ¬ (cs.length : Int) < 0; omega) hl (g := mkF m pc L r) rfl (hb hby d) hnn hbig hc' hs'
  have hX : ∀ x ∈ xs, n0 ≤ x ∧ x < h'.size ∧ Safe Z EL T'.vm h' x := fun x hm => ⟨(hxs x hm).1, Nat.lt_of_lt_of_le (hxs x hm).2.1 E.1, C1.safe (hxs x hm).2.1 (hxs x hm).2.2⟩
  exact Go.st st (k T' h' a b kb ⟨T'.vm, k1, locs, X', e', hS', hk', fun q => absurd q hnw, hZ', ho', hE, hC.trans C1, hF, hO.ext E, hX, hx, hby, rest⟩ E A1 A2 A3 A4 (fun x hm => hne x (hX x hm).2.2) ⟨A1, A2, ⟨b, kb, A3, A4⟩, hp, hl4⟩)
end Ldc
section Num
theorem toInt_nat {a : Nat} (ha : a < 2 ^ 31) : (Int32.ofNat a).toInt = (a : Int) := LawKit.toInt_of rfl ha
theorem lt_nat {a b : Nat} (ha : a < 2 ^ 31) (hb : b < 2 ^ 31) : Int32.ofNat a < Int32.ofNat b ↔ a < b := by
  rw [Int32.lt_iff_toInt_lt, toInt_nat ha, toInt_nat hb]; omega
theorem eq_nat {a b : Nat} (ha : a < 2 ^ 31) (hb : b < 2 ^ 31) : Int32.ofNat a = Int32.ofNat b ↔ a = b := by
  rw [← Int32.toInt_inj, toInt_nat ha, toInt_nat hb]; omega
theorem eq0_nat {a : Nat} (ha : a < 2 ^ 31) : Int32.ofNat a = 0 ↔ a = 0 := eq_nat (b := 0) ha (by decide)
theorem sub1_nat {a : Nat} (h0 : 0 < a) (ha : a < 2 ^ 31) : Int32.ofNat a - 1 = Int32.ofNat (a - 1) := by
  obtain ⟨b, rfl⟩ : ∃ b, a = b + 1 := ⟨a - 1, by omega⟩
  exact LawKit.dec_ofNat b
theorem add1_nat (a : Nat) : Int32.ofNat a + 1 = Int32.ofNat (a + 1) := (LawKit.inc_ofNat a).symm
/-- a nonnegative int is a number -/
theorem nat_of {x : Int32} (h : ¬ x < 0) : ∃ k : Nat, k < 2 ^ 31 ∧ x = Int32.ofNat k ∧ x.toInt = (k : Int) := by
  rw [Int32.lt_iff_toInt_lt] at h
  have e0 : (0 : Int32).toInt = 0 := rfl
  have hi := Int32.toInt_lt x
  refine ⟨x.toInt.toNat, by omega, ?_, by omega⟩
  rw [← Int32.toInt_inj, toInt_nat (by omega)]; omega
theorem and_nat (x m : Int32) {k : Nat} (hm : m = Int32.ofNat k) (hk : k < 2 ^ 31) : ∃ j : Nat, j ≤ k ∧ x &&& m = Int32.ofNat j := by
  subst hm
  refine ⟨(x &&& Int32.ofNat k).toBitVec.toNat, ?_, ?_⟩
  · simp only [Int32.toBitVec_and, BitVec.toNat_and]
    have : (Int32.ofNat k).toBitVec.toNat = k := by show (BitVec.ofNat 32 k).toNat = k; rw [BitVec.toNat_ofNat]; omega
    rw [this]; exact Nat.and_le_right
  · apply Int32.toBitVec_inj.mp
    show _ = BitVec.ofNat 32 _
    rw [BitVec.ofNat_toNat]; simp
theorem rem_nat {x : Int32} {q j : Nat} (hx : x = Int32.ofNat j) (hj : j < 2 ^ 31) (hq : q < 2 ^ 31) (h0 : 0 < q) : x % Int32.ofNat q = Int32.ofNat (j % q) := by
  subst hx
  have := Nat.mod_lt j h0
  rw [← Int32.toInt_inj, Int32.toInt_mod, toInt_nat hj, toInt_nat hq, toInt_nat (by omega), Int.tmod_eq_emod_of_nonneg (by omega)]
  omega
/-- (x & 0x7fffffff) % q -/
theorem mask_rem (x : Int32) {q : Nat} {y : Int32} (hy : y = Int32.ofNat q) (hq : q < 2 ^ 31) (h0 : 0 < q) : ∃ k : Nat, k < q ∧ (x &&& (2147483647 : Int32)) % y = Int32.ofNat k := by
  subst hy
  obtain ⟨j, hj, e⟩ := and_nat x (2147483647 : Int32) (k := 2147483647) rfl (by decide)
  exact ⟨j % q, Nat.mod_lt _ h0, rem_nat e (by omega) hq h0⟩
theorem not_lt_iff {x y : Int32} : ¬ x < y ↔ y ≤ x := Int32.not_lt
end Num
section Addrs
theorem ne_new {x y : Addr} {h : Heap} (l : x < h.size) (g : y = h.size) : x ≠ y := fun e => by subst e; rw [g] at l; exact Nat.lt_irrefl _ l
theorem nin1 {x y : Addr} {h : Heap} (l : x < h.size) (g : y = h.size) : x ∉ [y] := fun q => ne_new l g (List.mem_singleton.mp q)
theorem all1 {P : Addr → Prop} {y : Addr} (q : P y) : ∀ x ∈ [y], P x := fun x z => (List.mem_singleton.mp z) ▸ q
end Addrs
section Chars
theorem ch_cases {x : Int32} (h : ¬ x < 0 ∧ ¬ (255 : Int32) < x) : ∃ k : Nat, k < 256 ∧ x = Int32.ofNat k := by
  obtain ⟨k, hk, e, ei⟩ := nat_of h.1
  refine ⟨k, ?_, e⟩
  have h2 := h.2
  rw [Int32.lt_iff_toInt_lt, ei] at h2
  have : (255 : Int32).toInt = 255 := rfl
  omega
theorem nar_ch {x : Int32} (h : ¬ x < 0 ∧ ¬ (255 : Int32) < x) : nar .char x = x := by
  obtain ⟨k, hk, rfl⟩ := ch_cases h
  exact (by decide +kernel : ∀ k : Fin 256, nar .char (Int32.ofNat k.val) = Int32.ofNat k.val) ⟨k, hk⟩
theorem narrow_ch {x : Int32} (h : ¬ x < 0 ∧ ¬ (255 : Int32) < x) : narrow .char (.int x) = .int x := by
  show Value.int (nar .char x) = _
  rw [nar_ch h]
theorem i2c_ch {x : Int32} (h : ¬ x < 0 ∧ ¬ (255 : Int32) < x) : x.toUInt32.toUInt16.toUInt32.toInt32 = x := nar_ch h
end Chars
section More
variable {nw : Prop} {EL : List (String × Nat)} {n0 : Nat} {Z : State} {a0 : Array Value} {own nm : String} {cd : ByteArray} {ml : Nat} {ret : Option FieldType} {p : Program} {l : Launch} {e : Env} {R : Room} {s : State} {m : MethodId} {args : Array Value} {below : List Frame} {meth : Method} {c : Code} {T : State} {h : Heap} {xs : List Addr} {cells slots : Nat}
variable {F : State → Prop} {pc n : Nat} {L : Array Slot} {r : List Value}
/-- checkcast of an object of the class -/
theorem Go.cast (W : Wk nw EL n0 Z a0 own nm cd ml ret p l e R s m args below meth c T h xs cells slots) {K : String} {ix : Nat} {a : Addr} (d : Dec cd pc (.checkcast ix) 3 n) (w : (Cond.classLink own ix K).before a0 Z = true) (I : Ins Z h a K true)
    (k : ∀ T', Wk nw EL n0 Z a0 own nm cd ml ret p l e R s m args below meth c T' h xs cells slots → Go p e below F T' (mkF m n L (.ref a :: r))) : Go p e below F T (mkF m pc L (.ref a :: r)) := by
  obtain ⟨vm0, k0, locs, X, eT, hS, hk, hn, hZ, ho, hE, hC, hF, hO, hxs, hx, hby, rest⟩ := W
  obtain ⟨d, rfl⟩ := d
  obtain ⟨T', X', e', st⟩ := castY X hx hZ ho w eT I (g := mkF m pc L (.ref a :: r)) rfl rfl (hb hby d)
  exact Go.st st (k T' ⟨vm0, k0, locs, X', e', hS, hk, hn, hZ, ho, hE, hC, hF, hO, hxs, hx, hby, rest⟩)
/-- instanceof: yes -/
theorem Go.instY (W : Wk nw EL n0 Z a0 own nm cd ml ret p l e R s m args below meth c T h xs cells slots) {K : String} {ix : Nat} {a : Addr} (d : Dec cd pc (.instanceof ix) 3 n) (w : (Cond.classLink own ix K).before a0 Z = true) (I : Ins Z h a K true)
    (k : ∀ T', Wk nw EL n0 Z a0 own nm cd ml ret p l e R s m args below meth c T' h xs cells slots → Go p e below F T' (mkF m n L (.int 1 :: r))) : Go p e below F T (mkF m pc L (.ref a :: r)) := by
  obtain ⟨vm0, k0, locs, X, eT, hS, hk, hn, hZ, ho, hE, hC, hF, hO, hxs, hx, hby, rest⟩ := W
  obtain ⟨d, rfl⟩ := d
  obtain ⟨T', X', e', st⟩ := RoadKit.instY X hx hZ ho w eT I (g := mkF m pc L (.ref a :: r)) rfl rfl (hb hby d)
  exact Go.st st (k T' ⟨vm0, k0, locs, X', e', hS, hk, hn, hZ, ho, hE, hC, hF, hO, hxs, hx, hby, rest⟩)
/-- if_acmpne of two references -/
theorem Go.acne (C : Cx p below m c cd T) {x y : Value} {o : Int} {q : Nat} (d : Dec cd pc (.if_acmp .ne o) 3 n) (hx : x.isRef = true) (hy : y.isRef = true) (ho : 0 ≤ (pc : Int) + o) (hp : ((pc : Int) + o).toNat = q)
    (k1 : ¬ x = y → Go p e below F T (mkF m q L r)) (k2 : x = y → Go p e below F T (mkF m n L r)) : Go p e below F T (mkF m pc L (y :: x :: r)) := by
  obtain ⟨d, rfl⟩ := d
  by_cases hc : x = y
  · obtain ⟨t, st, f⟩ := k2 hc; exact ⟨t, XT.acmpNo C.1 C.2.1 rfl (hb C.2.2 d) rfl hx hy (by simp [XT.acmp, hc]) st, f⟩
  · obtain ⟨t, st, f⟩ := k1 hc; exact ⟨t, XT.acmpYes C.1 C.2.1 rfl (pc0 := pc) rfl (hb C.2.2 d) rfl hx hy (by simp [XT.acmp, hc]) ho hp st, f⟩
theorem Go.aceq (C : Cx p below m c cd T) {x y : Value} {o : Int} {q : Nat} (d : Dec cd pc (.if_acmp .eq o) 3 n) (hx : x.isRef = true) (hy : y.isRef = true) (ho : 0 ≤ (pc : Int) + o) (hp : ((pc : Int) + o).toNat = q)
    (k1 : x = y → Go p e below F T (mkF m q L r)) (k2 : ¬ x = y → Go p e below F T (mkF m n L r)) : Go p e below F T (mkF m pc L (y :: x :: r)) := by
  obtain ⟨d, rfl⟩ := d
  by_cases hc : x = y
  · obtain ⟨t, st, f⟩ := k1 hc; exact ⟨t, XT.acmpYes C.1 C.2.1 rfl (pc0 := pc) rfl (hb C.2.2 d) rfl hx hy (by simp [XT.acmp, hc]) ho hp st, f⟩
  · obtain ⟨t, st, f⟩ := k2 hc; exact ⟨t, XT.acmpNo C.1 C.2.1 rfl (hb C.2.2 d) rfl hx hy (by simp [XT.acmp, hc]) st, f⟩
/-- an enum constant: the static, its class, its ordinal -/
theorem ord_of {C f d K : String} {k : Int32} (hx : (Cond.exactly (Term.static C f d) K).value args Z none Z [] = some true) (ho : (Cond.eq (Term.field (Term.static C f d) "java/lang/Enum" "ordinal" "I") (Term.int k)).value args Z none Z [] = some true)
    (h1 : (Cond.initialized C).before args Z = true) (h2 : (Cond.laysStatic C f d).before args Z = true) : ∃ a, Sta Z Z.heap C f d (.ref a) ∧ Exa Z Z.heap a K ∧ Fld Z Z.heap a "java/lang/Enum" "ordinal" "I" (.int k) := by
  obtain ⟨a, ea⟩ := exa_v hx
  obtain ⟨x, y, hx1, hy1, -⟩ := cmp_v (Or.inl ho)
  have hy2 : (Term.int k).eval args Z none [] Z = some (.int k) := rfl
  rw [hy2] at hy1; cases hy1
  have q : Z.fieldOf? a "java/lang/Enum" "ordinal" "I" = some x := (fld_at ea).symm.trans hx1
  have : x = .int k := by
    cases x with
    | int i => rw [gotT (Cond.eq_ints hx1 hy2) ho]
    | _ => simp [Cond.value, hx1, hy2] at ho
  subst this
  exact ⟨a, Sta.start ea (Or.inr ⟨h1, h2⟩), Exa.start ea hx, Fld.start q⟩
theorem ref_cat {v : Value} (h : v = .null ∨ ∃ a, v = .ref a) : v.isRef = true ∧ v.category = 1 := by rcases h with rfl | ⟨a, rfl⟩ <;> exact ⟨rfl, rfl⟩
end More
section Inst
variable {nw : Prop} {EL : List (String × Nat)} {n0 : Nat} {Z : State} {a0 : Array Value} {own nm : String} {cd : ByteArray} {ml : Nat} {ret : Option FieldType} {p : Program} {l : Launch} {e : Env} {R : Room} {s : State} {m : MethodId} {args : Array Value} {below : List Frame} {meth : Method} {c : Code} {T : State} {h : Heap} {xs : List Addr} {cells slots : Nat}
variable {F : State → Prop} {pc n : Nat} {L : Array Slot} {r : List Value}
/-- a class right beneath the root is no subclass of another one -/
theorem no_sub {C O K : String} {kk : Nat} (w1 : (Cond.superclass C O).before a0 Z = true) (w2 : (Cond.noSuperclass O).before a0 Z = true) (wk : (Cond.instantiable K kk).before a0 Z = true) (h1 : C ≠ K) (h2 : O ≠ K) : ∃ c t, Z.vm.findClass C = some c ∧ Z.vm.findClass K = some t ∧ Z.vm.assignable c t = false := by
  obtain ⟨o, ko, o1, o2, o3, -, -⟩ := Cond.noSuperclass_spec w2
  obtain ⟨c, c0⟩ := found_sup w1
  obtain ⟨p, k, kp, p1, p2, p3, p4, p5, -, p7⟩ := Cond.superclass_spec c0 w1
  cases o1.symm.trans p1
  obtain ⟨t, kt, t1, t2, t3, t4, -⟩ := Cond.instantiable_spec wk
  have n1 := ids_ne c0 t1 h1
  have n2 := ids_ne o1 t1 h2
  have t5 : kt.isInterface = false := by cases q : kt.isInterface <;> simp_all
  have sub : ∀ fuel, Z.vm.isSubclassAux fuel c t = false := fun fuel => by
    rcases fuel with _ | _ | f
    · rfl
    · simp [Vm.isSubclassAux, n1, p2, p4]
    · simp [Vm.isSubclassAux, n1, n2, p2, p4, o2, o3]
  refine ⟨c, t, c0, t1, ?_⟩
  show Z.vm.assignableAux (255 + 1) c t = false
  simp [Vm.assignableAux, n1, p2, t2, p5, t3, t5, Vm.isSubclass, sub]
theorem Go.instN (W : Wk nw EL n0 Z a0 own nm cd ml ret p l e R s m args below meth c T h xs cells slots) {K C : String} {ix : Nat} {a : Addr} (d : Dec cd pc (.instanceof ix) 3 n) (w : (Cond.classLink own ix K).before a0 Z = true) (E : Exa Z h a C) (I : ∃ c t, Z.vm.findClass C = some c ∧ Z.vm.findClass K = some t ∧ Z.vm.assignable c t = false)
    (k : ∀ T', Wk nw EL n0 Z a0 own nm cd ml ret p l e R s m args below meth c T' h xs cells slots → Go p e below F T' (mkF m n L (.int 0 :: r))) : Go p e below F T (mkF m pc L (.ref a :: r)) := by
  obtain ⟨vm0, k0, locs, X, eT, hS, hk, hn, hZ, ho, hE, hC, hF, hO, hxs, hx, hby, rest⟩ := W
  obtain ⟨d, rfl⟩ := d
  obtain ⟨T', X', e', st⟩ := RoadKit.instNo X hx hZ ho w eT E I (g := mkF m pc L (.ref a :: r)) rfl rfl (hb hby d)
  exact Go.st st (k T' ⟨vm0, k0, locs, X', e', hS, hk, hn, hZ, ho, hE, hC, hF, hO, hxs, hx, hby, rest⟩)
theorem Go.inst0 (W : Wk nw EL n0 Z a0 own nm cd ml ret p l e R s m args below meth c T h xs cells slots) {ix : Nat} (d : Dec cd pc (.instanceof ix) 3 n)
    (k : Go p e below F T (mkF m n L (.int 0 :: r))) : Go p e below F T (mkF m pc L (.null :: r)) := by
  obtain ⟨vm0, k0, locs, X, eT, hS, hk, hn, hZ, ho, hE, hC, hF, hO, hxs, hx, hby, rest⟩ := W
  obtain ⟨d, rfl⟩ := d
  exact Go.st (fun t st => X.instanceofNull hx (g := mkF m pc L (.null :: r)) rfl rfl (hb hby d) t st) k
end Inst
section Objs
variable {nw : Prop} {EL : List (String × Nat)} {n0 : Nat} {Z : State} {a0 : Array Value} {own nm : String} {cd : ByteArray} {ml : Nat} {ret : Option FieldType} {p : Program} {l : Launch} {e : Env} {R : Room} {s : State} {m : MethodId} {args : Array Value} {below : List Frame} {meth : Method} {c : Code} {T : State} {h h' : Heap} {xs : List Addr} {cells slots : Nat}
variable {F : State → Prop} {pc n : Nat} {L : Array Slot} {r : List Value}
/-- an empty array of references -/
def OArr (Z : State) (h : Heap) (a : Addr) (C ad : String) : Prop := ∃ cl : Cell, Arr Z h a cl (.object C) ∧ Exa Z h a ad ∧ cl.slots.size = 0
theorem OArr.exa {a : Addr} {C ad : String} (O : OArr Z h a C ad) : Exa Z h a ad := by obtain ⟨_, -, E, -⟩ := O; exact E
theorem OArr.lt {a : Addr} {C ad : String} (O : OArr Z h a C ad) : a < h.size := O.exa.lt
theorem OArr.ext {a : Addr} {C ad : String} (O : OArr Z h a C ad) (E : Ext h h') : OArr Z h' a C ad := by obtain ⟨cl, A, X, S⟩ := O; exact ⟨cl, A.ext E, X.ext E, S⟩
theorem OArr.keep {a : Addr} {C ad : String} {ws : List Addr} (O : OArr Z h a C ad) (K : Keep h h' ws) (q : a ∉ ws) : OArr Z h' a C ad := by obtain ⟨cl, A, X, S⟩ := O; exact ⟨cl, ⟨K.2.1 a cl A.1 q, A.2⟩, X.keep K, S⟩
theorem Go.newobjs0 (W : Wk nw EL n0 Z a0 own nm cd ml ret p l e R s m args below meth c T h xs cells slots) {C ad : String} {ix cells' : Nat} (d : Dec cd pc (.anewarray ix) 3 n) (w1 : (Cond.classLink own ix C).before a0 Z = true) (w2 : (Cond.arrayOver (.object C)).before a0 Z = true)
    (hc : cells + 1 = cells') (hc' : cells' ≤ R.cells) (hs' : slots + 0 ≤ R.slots) (had : "[" ++ (FieldType.object C).toString = ad)
    (k : ∀ T' h' a, a = h.size → Wk nw EL n0 Z a0 own nm cd ml ret p l e R s m args below meth c T' h' (a :: xs) cells' slots → Ext h h' → OArr Z h' a C ad → Go p e below F T' (mkF m n L (.ref a :: r))) : Go p e below F T (mkF m pc L (.int 0 :: r)) := by
  obtain ⟨vm0, k0, locs, X, eT, hS, hk, hn, hZ, ho, hE, hC, hF, hO, hxs, hx, hby, rest⟩ := W
  obtain ⟨d, rfl⟩ := d
  subst hc
  obtain ⟨T', h', cA, X', e', E, A, A2, -, st⟩ := newRE X hx hZ ho w1 w2 eT (g := mkF m pc L (.int 0 :: r)) rfl (hb hby d) rfl (by decide) (cap := 0) (by decide) (by decide) hc' hs' had
  have C1 := CHr.ext E hC.1
  refine Go.st st (k T' h' h.size rfl ⟨vm0, k0, locs, X', e', hS, Nat.le_trans hk E.1, hn, hZ, ho, hE, hC.trans C1, hF, hO.ext E, fun x hm => ?_, hx, hby, rest⟩ E ⟨_, A, A2, by rw [sz_new]; rfl⟩)
  rcases List.mem_cons.mp hm with rfl | hm
  · exact ⟨old_le hO, A.lt, Safe.ext E hC.1 (Safe.new (Nat.le_refl _))⟩
  · exact ⟨(hxs x hm).1, Nat.lt_of_lt_of_le (hxs x hm).2.1 E.1, C1.safe (hxs x hm).2.1 (hxs x hm).2.2⟩
theorem Go.clone0 (W : Wk nw EL n0 Z a0 own nm cd ml ret p l e R s m args below meth c T h xs cells slots) {C ad : String} {ix wt cells' : Nat} {b : Addr} (d : Dec cd pc (.invokevirtual ix) 3 n)
    (w1 : (Cond.methodLink own ix ⟨ad, "clone", "()Ljava/lang/Object;"⟩).before a0 Z = true) (w2 : (Cond.sameMethod ad "java/lang/Object" "clone" "()Ljava/lang/Object;").before a0 Z = true) (w3 : (Cond.native ⟨"java/lang/Object", "clone", "()Ljava/lang/Object;"⟩).before a0 Z = true)
    (w4 : (Cond.instanceMethod ⟨"java/lang/Object", "clone", "()Ljava/lang/Object;"⟩).before a0 Z = true) (w5 : (Cond.selects ad ⟨ad, "clone", "()Ljava/lang/Object;"⟩ ⟨"java/lang/Object", "clone", "()Ljava/lang/Object;"⟩).before a0 Z = true) (w6 : (Cond.castable ad "java/lang/Cloneable").before a0 Z = true)
    (O : OArr Z h b C ad) (hsz : L.size = ml) (hf : 1 ≤ R.frames) (hw : (r.map fun v => v.category).sum ≤ wt) (hl : wt + 14 ≤ R.locals) (hc : cells + 1 = cells') (hc' : cells' ≤ R.cells) (hs' : slots + 0 ≤ R.slots)
    (k : ∀ T' h' a, a = h.size → Wk nw EL n0 Z a0 own nm cd ml ret p l e R s m args below meth c T' h' (a :: xs) cells' slots → Ext h h' → OArr Z h' a C ad → Go p e below F T' (mkF m n L (.ref a :: r))) : Go p e below F T (mkF m pc L (.ref b :: r)) := by
  obtain ⟨vm0, k0, locs, X, eT, hS, hk, hn, hZ, ho, hE, hC, hF, hO, hxs, hx, hby, hml, rest⟩ := W
  obtain ⟨d, rfl⟩ := d
  subst hc
  obtain ⟨cl, A, A2, S⟩ := O
  obtain ⟨T', h', X', e', E, B, B2, st⟩ := cloneA X hx hZ ho w1 w2 w3 w4 w5 w6 eT A A2 (fun i v hv => by have := (Array.getElem?_eq_some_iff.mp hv).1; omega) (g := mkF m pc L (.ref b :: r)) rfl (hsz.trans hml.symm) rfl (hb hby d) hf (W := wt) (cap := 0) (by show 2 * 0 + _ ≤ _; omega) hl (by omega) hc' hs'
  have C1 := CHr.ext E hC.1
  refine Go.st st (k T' h' h.size rfl ⟨vm0, k0, locs, X', e', hS, Nat.le_trans hk E.1, hn, hZ, ho, hE, hC.trans C1, hF, hO.ext E, fun x hm => ?_, hx, hby, hml, rest⟩ E ⟨_, B, B2, by simpa [cloneOf] using S⟩)
  rcases List.mem_cons.mp hm with rfl | hm
  · exact ⟨old_le hO, B.lt, Safe.ext E hC.1 (Safe.new (Nat.le_refl _))⟩
  · exact ⟨(hxs x hm).1, Nat.lt_of_lt_of_le (hxs x hm).2.1 E.1, C1.safe (hxs x hm).2.1 (hxs x hm).2.2⟩
theorem Go.alen0 (W : Wk nw EL n0 Z a0 own nm cd ml ret p l e R s m args below meth c T h xs cells slots) {a : Addr} {C ad : String} (d : Dec cd pc .arraylength 1 n) (O : OArr Z h a C ad)
    (k : Go p e below F T (mkF m n L (.int 0 :: r))) : Go p e below F T (mkF m pc L (.ref a :: r)) := by
  obtain ⟨vm0, k0, locs, X, eT, hS, hk, hn, hZ, ho, hE, hC, hF, hO, hxs, hx, hby, rest⟩ := W
  obtain ⟨d, rfl⟩ := d
  obtain ⟨cl, A, A2, S⟩ := O
  exact Go.st (fun t st => X.arraylength hx (by rw [eT]; exact A.1) (State.isArrayOf_alike hZ.alike A.2.1) (g := mkF m pc L (.ref a :: r)) rfl rfl (hb hby d) t (by rw [S]; exact st)) k
end Objs
section More2
variable {nw : Prop} {EL : List (String × Nat)} {n0 : Nat} {Z : State} {a0 : Array Value} {own nm : String} {cd : ByteArray} {ml : Nat} {ret : Option FieldType} {p : Program} {l : Launch} {e : Env} {R : Room} {s : State} {m : MethodId} {args : Array Value} {below : List Frame} {meth : Method} {c : Code} {T : State} {h h' : Heap} {xs : List Addr} {cells slots : Nat}
variable {F : State → Prop} {pc n : Nat} {L : Array Slot} {r : List Value}
theorem Go.ldcF (W : Wk nw EL n0 Z a0 own nm cd ml ret p l e R s m args below meth c T h xs cells slots) {ix : Nat} {v : UInt32} (d : Dec cd pc (.ldc ix) 2 n) (w : (Cond.constantFloat own ix v).before a0 Z = true)
    (k : Go p e below F T (mkF m n L (.float v :: r))) : Go p e below F T (mkF m pc L r) := by
  obtain ⟨vm0, k0, locs, X, eT, hS, hk, hn, hZ, ho, hE, hC, hF, hO, hxs, hx, hby, rest⟩ := W
  obtain ⟨d, rfl⟩ := d
  exact Go.st (fun t st => X.ldcFloatC hx ho (mv hZ w) (g := mkF m pc L r) rfl (hb hby d) t st) k
/-- invokevirtual of an inherited method, nothing returned -/
theorem Go.invvU0 (W : Wk nw EL n0 Z a0 own nm cd ml ret p l e R s m args below meth c T h xs cells slots) {x y : MethodName} {C owner : String} {ix wt kc ks cells' slots' : Nat} {argsL rest st0 : List Value} {b : Addr} {Q : Heap → Prop} {ps : List FieldType} {pr : Option FieldType} (hK : Call nw EL n0 Z xs l R p e below s args y 3 wt (.ref b :: argsL).toArray h kc ks (RN Q)) (d : Dec cd pc (.invokevirtual ix) 3 n)
    (w1 : (Cond.methodLink own ix x).before a0 Z = true) (w2 : (Cond.sameMethod x.cls owner x.name x.desc).before a0 Z = true) (w3 : (Cond.declares ⟨owner, x.name, x.desc⟩).before a0 Z = true) (how : owner ≠ "java/lang/invoke/MethodHandle" ∧ owner ≠ "java/lang/invoke/VarHandle") (w4 : (Cond.selects C x y).before a0 Z = true) (w5 : (Cond.instanceMethod y).before a0 Z = true) (E : Exa Z h b C)
    (hpd : parseMethodDescriptor x.desc = some ⟨ps, pr⟩) (hlen : argsL.length = ps.length) (hsz : L.size = ml) (hst : st0 = argsL.reverse ++ .ref b :: rest) (hw : (rest.map fun v => v.category).sum ≤ wt) (hc : cells + kc = cells') (hs : slots + ks = slots') (hc' : cells' ≤ R.cells) (hs' : slots' ≤ R.slots)
    (k : ∀ T' h', Wk nw EL n0 Z a0 own nm cd ml ret p l e R s m args below meth c T' h' xs cells' slots' → h.size ≤ h'.size → Q h' → Go p e below F T' (mkF m n L rest)) : Go p e below F T (mkF m pc L st0) := by
  obtain ⟨vm0, k0, locs, X, eT, hS, hk, hn, hZ, ho, hE, hC, hF, hO, hxs, hx, hby, hml, rst⟩ := W
  obtain ⟨d, rfl⟩ := d
  subst hc hs hst
  obtain ⟨cq, kq, qa, qb, qc⟩ := isOf (s := s.setVm vm0) hZ eT E
  obtain ⟨v, vm₁, B, hW1, X', hS2, hg, ⟨Lc, hq, r1, r2, r3, hF', hO', hC', hn'⟩, st⟩ := X.virtualBackUpS hx ho (mv hZ w1) (mv hZ w2) (mv hZ w3) how (mv hZ w4) (mv hZ w5) (hK vm0 hZ hC.1 hO hxs) qa qc (g := mkF m pc L (argsL.reverse ++ .ref b :: rest)) rfl (hsz.trans hml.symm) (Steps.refl _) (argsL := argsL) (rest := rest) (lenOf hpd hlen) rfl (by show 2 * 0 + _ ≤ _; omega) (hb hby d) (fun _ _ => ⟨rfl, eT, hc', hs'⟩)
  obtain ⟨rfl, hq⟩ := hq
  exact Go.run st (k B.U B.U.heap (Wk.after X eT hS hk hn hZ ho hE hC hF hO hxs ⟨hx, hby, hml, rst⟩ X' hS2 hg r1 r2 r3 hF' hO' hC' hn') (eT ▸ hg) hq)
/-- a static that holds a reference -/
theorem sta_ref {C f d : String} {t : FieldType} (hf : Fit Z) (h1 : (Cond.initialized C).before args Z = true) (h2 : (Cond.laysStatic C f d).before args Z = true) (ht : parseFieldDescriptor d = some t) (hr : t.isReference = true) : ∃ v : Value, Sta Z Z.heap C f d v ∧ (v = .null ∨ ∃ r, v = .ref r) := by
  obtain ⟨v, ev, fv⟩ := static_fit hf h2 ht
  exact ⟨v, Sta.start ev (Or.inr ⟨h1, h2⟩), ref_cases (fit_R fv hr)⟩
end More2
section Jdk
variable {nw : Prop} {EL : List (String × Nat)} {n0 : Nat} {Z : State} {a0 : Array Value} {own nm : String} {cd : ByteArray} {ml : Nat} {ret : Option FieldType} {p : Program} {l : Launch} {e : Env} {R : Room} {s : State} {m : MethodId} {args : Array Value} {below : List Frame} {meth : Method} {c : Code} {T : State} {h h' : Heap} {xs : List Addr} {cells slots : Nat}
variable {F : State → Prop} {pc n : Nat} {L : Array Slot} {r : List Value}
/-- the low byte of a char, as a byte[] holds it -/
def by8 (x : Int32) : Int32 := x.toInt8.toInt32
/-- a byte[] that holds chars of 0 to 255 -/
def BArr (Z : State) (h : Heap) (a : Addr) (ka : ClassId) (cs : List Int32) : Prop := Arv Z h a ka .byte (Int32.ofNat cs.length) ((cs.map fun c => c.toInt8.toInt32).map Value.int) (.int 0)
/-- baload -/
theorem Go.baload (W : Wk nw EL n0 Z a0 own nm cd ml ret p l e R s m args below meth c T h xs cells slots) {a : Addr} {ka : ClassId} {cs : List Int32} {j v : Int32} (i : Nat) (d : Dec cd pc .baload 1 n) (A : BArr Z h a ka cs) (hj : j = Int32.ofNat i) (hi : i < cs.length) (hlen : cs.length < 2 ^ 31) (hv : by8 (cs.getD i 0) = v)
    (k : Go p e below F T (mkF m n L (.int v :: r))) : Go p e below F T (mkF m pc L (.int j :: .ref a :: r)) := by
  obtain ⟨vm0, k0, locs, X, eT, hS, hk, hn, hZ, ho, hE, hC, hF, hO, hxs, hx, hby, rest⟩ := W
  obtain ⟨d, rfl⟩ := d
  subst hj
  obtain ⟨cl, A1, q1, S1, M1, H1, U1⟩ := id A
  have hin := inb_of S1 (in_of rfl hi hlen)
  have hat := Has.at (v := .int v) H1 hin (by rw [clamp_nat (by omega)]; unfold by8 at hv; simp only [List.getD_eq_getElem?_getD, List.getElem?_map] at hv ⊢; rw [List.getElem?_eq_getElem hi] at hv ⊢; simpa using hv)
  exact Go.st (fun t st => X.baloadBytes hx (by rw [eT]; exact A1.1) (State.isArrayOf_alike hZ.alike A1.2.1) A1.2.2 hin hat (g := mkF m pc L (.int (Int32.ofNat i) :: .ref a :: r)) rfl rfl (hb hby d) t st) k
theorem by8_inj {x y : Int32} (hx : ¬ x < 0 ∧ ¬ (255 : Int32) < x) (hy : ¬ y < 0 ∧ ¬ (255 : Int32) < y) : by8 x = by8 y ↔ x = y := by
  have t : ∀ k : Fin 256, by8 (Int32.ofNat k.val) &&& 255 = Int32.ofNat k.val := by decide +kernel
  constructor
  · intro q
    obtain ⟨i, hi, rfl⟩ := ch_cases hx
    obtain ⟨j, hj, rfl⟩ := ch_cases hy
    rw [← t ⟨i, hi⟩, ← t ⟨j, hj⟩]
    show by8 (Int32.ofNat i) &&& 255 = by8 (Int32.ofNat j) &&& 255
    rw [q]
  · rintro rfl; rfl
theorem getD_ch {cs : List Int32} (h : ∀ c ∈ cs, ¬ c < 0 ∧ ¬ (255 : Int32) < c) {i : Nat} (hi : i < cs.length) : ¬ cs.getD i 0 < 0 ∧ ¬ (255 : Int32) < cs.getD i 0 := by
  rw [List.getD_eq_getElem?_getD, List.getElem?_eq_getElem hi]
  exact h _ (List.getElem_mem _)
/-- a boolean answer -/
def Bo (P : Prop) (z : Int32) : Prop := (z = 1 ∧ P) ∨ (z = 0 ∧ ¬ P)
theorem Bo.yes {P : Prop} {z : Int32} (B : Bo P z) (q : ¬ z = 0) : P := B.elim (fun u => u.2) (fun u => absurd u.1 q)
theorem Bo.no {P : Prop} {z : Int32} (B : Bo P z) (q : z = 0) : ¬ P := B.elim (fun u => absurd (u.1.symm.trans q) (by decide)) (fun u => u.2)
theorem Bo.tt {P : Prop} (q : P) : Bo P 1 := Or.inl ⟨rfl, q⟩
theorem Bo.ff {P : Prop} (q : ¬ P) : Bo P 0 := Or.inr ⟨rfl, q⟩
theorem Bo.one {P : Prop} {z : Int32} (B : Bo P z) (q : P) : z = 1 := B.elim (fun u => u.1) (fun u => absurd q u.2)
theorem Bo.zero {P : Prop} {z : Int32} (B : Bo P z) (q : ¬ P) : z = 0 := B.elim (fun u => absurd u.2 q) (fun u => u.1)
theorem Bo.iff {P Q : Prop} {z : Int32} (B : Bo P z) (q : P ↔ Q) : Bo Q z := B.elim (fun u => Or.inl ⟨u.1, q.mp u.2⟩) (fun u => Or.inr ⟨u.1, fun w => u.2 (q.mpr w)⟩)
theorem Bo.same {P : Prop} {z z' : Int32} (B : Bo P z) (B' : Bo P z') : z = z' := by
  rcases B with ⟨rfl, q⟩ | ⟨rfl, q⟩
  · exact (B'.one q).symm
  · exact (B'.zero q).symm
theorem Bo.nar {P : Prop} {z : Int32} (B : Bo P z) : narrow .boolean (.int z) = .int z := by
  rcases B with ⟨rfl, -⟩ | ⟨rfl, -⟩ <;> rfl
theorem add_nat (a b : Nat) : Int32.ofNat a + Int32.ofNat b = Int32.ofNat (a + b) := (Int32.ofNat_add a b).symm
theorem sub_int {a b : Nat} (ha : a < 2 ^ 31) (hb : b < 2 ^ 31) : (Int32.ofNat a - Int32.ofNat b).toInt = (a : Int) - b := by
  rw [Int32.toInt_sub, toInt_nat ha, toInt_nat hb]
  exact Int.bmod_eq_of_le (by omega) (by omega)
theorem sub_nat {a b : Nat} (ha : a < 2 ^ 31) (hb : b ≤ a) : Int32.ofNat a - Int32.ofNat b = Int32.ofNat (a - b) := by
  rw [← Int32.toInt_inj, sub_int ha (by omega), toInt_nat (by omega)]; omega
/-- ds stands in cs at k -/
def Sw (cs : List Int32) (k : Nat) (ds : List Int32) : Prop := k + ds.length ≤ cs.length ∧ ∀ i, i < ds.length → cs.getD (k + i) 0 = ds.getD i 0
theorem BArr.of_new {a : Addr} {ka : ClassId} {z : Int32} (A : Arv Z h a ka .byte z [] (.int 0)) {cs : List Int32} {k : Nat} (hc : cs = List.replicate k 0) (hz : z = Int32.ofNat k) : BArr Z h a ka cs := by
  subst hc hz
  unfold BArr
  rw [List.length_replicate, List.map_replicate, List.map_replicate]
  exact Arv.pad A (fun i => by simpa using pad_rep [] (.int 0) k i)
theorem BArr.lt {a : Addr} {ka : ClassId} {cs : List Int32} (A : BArr Z h a ka cs) : a < h.size := Arv.lt A
theorem BArr.ext {a : Addr} {ka : ClassId} {cs : List Int32} (A : BArr Z h a ka cs) (E : Ext h h') : BArr Z h' a ka cs := Arv.ext A E
theorem BArr.keep {a : Addr} {ka : ClassId} {cs : List Int32} {ws : List Addr} (A : BArr Z h a ka cs) (K : Keep h h' ws) (q : a ∉ ws) : BArr Z h' a ka cs := Arv.keep A K q
theorem by8_nar (x : Int32) : nar .byte (x.toInt8.toInt32) = by8 x := by simp [nar, by8]
/-- bastore into a byte[] of the walk's own -/
theorem Go.bastore (W : Wk nw EL n0 Z a0 own nm cd ml ret p l e R s m args below meth c T h xs cells slots) {a : Addr} {ka : ClassId} {cs : List Int32} {j x x' : Int32} (i : Nat) (d : Dec cd pc .bastore 1 n) (A : BArr Z h a ka cs) (ha : a ∈ xs) (hj : j = Int32.ofNat i) (hi : i < cs.length) (hlen : cs.length < 2 ^ 31) (hx' : nar .byte x = by8 x')
    (k : ∀ T' h', Wk nw EL n0 Z a0 own nm cd ml ret p l e R s m args below meth c T' h' xs cells slots → Keep h h' [a] → BArr Z h' a ka (cs.set i x') → Go p e below F T' (mkF m n L r)) : Go p e below F T (mkF m pc L (.int x :: .int j :: .ref a :: r)) := by
  obtain ⟨vm0, k0, locs, X, eT, hS, hk, hn, hZ, ho, hE, hC, hF, hO, hxs, hx, hby, rest⟩ := W
  obtain ⟨d, rfl⟩ := d
  subst hj
  obtain ⟨cl, A1, q1, S1, M1, H1, U1⟩ := id A
  have hin := inb_of S1 (in_of rfl hi hlen)
  obtain ⟨T', h', X', e', Wr', st⟩ := stB X hx hZ eT A1 hin (g := mkF m pc L (.int x :: .int (Int32.ofNat i) :: .ref a :: r)) rfl rfl (hb hby d)
  have q := hxs a ha
  have C1 := CHr.wr Wr' q.2.2 hC.1
  have sz : h'.size = h.size := Wr'.size
  have A2 : BArr Z h' a ka (cs.set i x') := by
    have B := Arv.set A1 q1 S1 M1 H1 U1 (fits_nar_byte x) Wr' i (clamp_nat (by omega)) (by simpa using hi)
    unfold BArr
    rw [List.length_set, List.map_set, List.map_set]
    rw [show x.toInt8.toInt32 = x'.toInt8.toInt32 from hx'] at B
    exact B
  exact Go.st st (k T' h' ⟨vm0, k0, _, X', e', hS, by rw [sz]; exact hk, hn, hZ, ho, hE, hC.trans C1, Fr.snoc X' hF q.1, hO.wr Wr' q.1, fun x hm => ⟨(hxs x hm).1, by rw [sz]; exact (hxs x hm).2.1, C1.safe (hxs x hm).2.1 (hxs x hm).2.2⟩, hx, hby, rest⟩ (Keep.of_wr Wr') A2)
theorem getD_take (cs : List Int32) (n i : Nat) : (cs.take n).getD i 0 = if i < n then cs.getD i 0 else 0 := by
  simp only [List.getD_eq_getElem?_getD, List.getElem?_take]
  split <;> rfl
theorem getD_set (cs : List Int32) (i j : Nat) (x : Int32) (hi : i < cs.length) : (cs.set i x).getD j 0 = if i = j then x else cs.getD j 0 := by
  simp only [List.getD_eq_getElem?_getD, List.getElem?_set]
  by_cases q : i = j
  · subst q; rw [if_pos rfl]; simp [hi]
  · rw [if_neg q]; simp [q]
theorem take_ch {cs : List Int32} (h : ∀ c ∈ cs, ¬ c < 0 ∧ ¬ (255 : Int32) < c) (n : Nat) : ∀ c ∈ cs.take n, ¬ c < 0 ∧ ¬ (255 : Int32) < c := fun c q => h c (List.mem_of_mem_take q)
end Jdk
section ObjArr
variable {nw : Prop} {EL : List (String × Nat)} {n0 : Nat} {Z : State} {a0 : Array Value} {own nm : String} {cd : ByteArray} {ml : Nat} {ret : Option FieldType} {p : Program} {l : Launch} {e : Env} {R : Room} {s : State} {m : MethodId} {args : Array Value} {below : List Frame} {meth : Method} {c : Code} {T : State} {h h' : Heap} {xs : List Addr} {cells slots : Nat}
variable {F : State → Prop} {pc n : Nat} {L : Array Slot} {r : List Value}
/-- an array of references, its elements -/
def OAr (Z : State) (h : Heap) (a : Addr) (C ad : String) (vs : List Value) : Prop := ∃ cl : Cell, Arr Z h a cl (.object C) ∧ Exa Z h a ad ∧ cl.slots = vs.toArray ∧ ∀ v ∈ vs, v.isRef = true
theorem OAr.exa {a : Addr} {C ad : String} {vs : List Value} (O : OAr Z h a C ad vs) : Exa Z h a ad := by obtain ⟨_, -, E, -⟩ := O; exact E
theorem OAr.lt {a : Addr} {C ad : String} {vs : List Value} (O : OAr Z h a C ad vs) : a < h.size := O.exa.lt
theorem OAr.ext {a : Addr} {C ad : String} {vs : List Value} (O : OAr Z h a C ad vs) (E : Ext h h') : OAr Z h' a C ad vs := by obtain ⟨cl, A, X, S⟩ := O; exact ⟨cl, A.ext E, X.ext E, S⟩
theorem OAr.keep {a : Addr} {C ad : String} {vs : List Value} {ws : List Addr} (O : OAr Z h a C ad vs) (K : Keep h h' ws) (q : a ∉ ws) : OAr Z h' a C ad vs := by obtain ⟨cl, A, X, S⟩ := O; exact ⟨cl, ⟨K.2.1 a cl A.1 q, A.2⟩, X.keep K, S⟩
theorem fits_ref {v : Value} {C : String} (h : v.isRef = true) : fits (.object C) v = true := by cases v <;> first | rfl | cases h
theorem Go.cloneN (W : Wk nw EL n0 Z a0 own nm cd ml ret p l e R s m args below meth c T h xs cells slots) {C ad : String} {vs : List Value} {ix wt cells' slots' : Nat} {b : Addr} (d : Dec cd pc (.invokevirtual ix) 3 n)
    (w1 : (Cond.methodLink own ix ⟨ad, "clone", "()Ljava/lang/Object;"⟩).before a0 Z = true) (w2 : (Cond.sameMethod ad "java/lang/Object" "clone" "()Ljava/lang/Object;").before a0 Z = true) (w3 : (Cond.native ⟨"java/lang/Object", "clone", "()Ljava/lang/Object;"⟩).before a0 Z = true)
    (w4 : (Cond.instanceMethod ⟨"java/lang/Object", "clone", "()Ljava/lang/Object;"⟩).before a0 Z = true) (w5 : (Cond.selects ad ⟨ad, "clone", "()Ljava/lang/Object;"⟩ ⟨"java/lang/Object", "clone", "()Ljava/lang/Object;"⟩).before a0 Z = true) (w6 : (Cond.castable ad "java/lang/Cloneable").before a0 Z = true)
    (O : OAr Z h b C ad vs) (hsz : L.size = ml) (hf : 1 ≤ R.frames) (hw : (r.map fun v => v.category).sum ≤ wt) (hl : wt + 14 ≤ R.locals) (hc : cells + 1 = cells') (hs : slots + vs.length = slots') (hc' : cells' ≤ R.cells) (hs' : slots' ≤ R.slots)
    (k : ∀ T' h' a, a = h.size → Wk nw EL n0 Z a0 own nm cd ml ret p l e R s m args below meth c T' h' (a :: xs) cells' slots' → Ext h h' → OAr Z h' a C ad vs → Go p e below F T' (mkF m n L (.ref a :: r))) : Go p e below F T (mkF m pc L (.ref b :: r)) := by
  obtain ⟨vm0, k0, locs, X, eT, hS, hk, hn, hZ, ho, hE, hC, hF, hO, hxs, hx, hby, hml, rest⟩ := W
  obtain ⟨d, rfl⟩ := d
  subst hc hs
  obtain ⟨cl, A, A2, S, hv⟩ := O
  obtain ⟨T', h', X', e', E, B, B2, st⟩ := cloneA X hx hZ ho w1 w2 w3 w4 w5 w6 eT A A2 (fitC_of A fun i hi v hq => fits_ref (hv v (by rw [S] at hq; exact List.mem_of_getElem? (by simpa using hq)))) (g := mkF m pc L (.ref b :: r)) rfl (hsz.trans hml.symm) rfl (hb hby d) hf (W := wt) (cap := vs.length) (by show 2 * 0 + _ ≤ _; omega) hl (by rw [S]; simp) hc' hs'
  have C1 := CHr.ext E hC.1
  refine Go.st st (k T' h' h.size rfl ⟨vm0, k0, locs, X', e', hS, Nat.le_trans hk E.1, hn, hZ, ho, hE, hC.trans C1, hF, hO.ext E, fun x hm => ?_, hx, hby, hml, rest⟩ E ⟨_, B, B2, S, hv⟩)
  rcases List.mem_cons.mp hm with rfl | hm
  · exact ⟨old_le hO, B.lt, Safe.ext E hC.1 (Safe.new (Nat.le_refl _))⟩
  · exact ⟨(hxs x hm).1, Nat.lt_of_lt_of_le (hxs x hm).2.1 E.1, C1.safe (hxs x hm).2.1 (hxs x hm).2.2⟩
theorem Go.alenN (W : Wk nw EL n0 Z a0 own nm cd ml ret p l e R s m args below meth c T h xs cells slots) {a : Addr} {C ad : String} {vs : List Value} {z : Int32} (d : Dec cd pc .arraylength 1 n) (O : OAr Z h a C ad vs) (hz : z = Int32.ofNat vs.length)
    (k : Go p e below F T (mkF m n L (.int z :: r))) : Go p e below F T (mkF m pc L (.ref a :: r)) := by
  obtain ⟨vm0, k0, locs, X, eT, hS, hk, hn, hZ, ho, hE, hC, hF, hO, hxs, hx, hby, rest⟩ := W
  obtain ⟨d, rfl⟩ := d
  obtain ⟨cl, A, A2, S, hv⟩ := O
  subst hz
  exact Go.st (fun t st => X.arraylength hx (by rw [eT]; exact A.1) (State.isArrayOf_alike hZ.alike A.2.1) (g := mkF m pc L (.ref a :: r)) rfl rfl (hb hby d) t (by rw [S]; simpa using st)) k
theorem Go.aaload (W : Wk nw EL n0 Z a0 own nm cd ml ret p l e R s m args below meth c T h xs cells slots) {a : Addr} {C ad : String} {vs : List Value} {j : Int32} {v : Value} (i : Nat) (d : Dec cd pc .aaload 1 n) (O : OAr Z h a C ad vs) (hj : j = Int32.ofNat i) (hi : i < 2 ^ 31) (hv : vs[i]? = some v)
    (k : Go p e below F T (mkF m n L (v :: r))) : Go p e below F T (mkF m pc L (.int j :: .ref a :: r)) := by
  obtain ⟨vm0, k0, locs, X, eT, hS, hk, hn, hZ, ho, hE, hC, hF, hO, hxs, hx, hby, rest⟩ := W
  obtain ⟨d, rfl⟩ := d
  subst hj
  obtain ⟨cl, A, A2, S, hr⟩ := O
  have hlt : i < vs.length := (List.getElem?_eq_some_iff.mp hv).1
  exact Go.st (fun t st => X.aaload hx (by rw [eT]; exact A.1) (State.isArrayOf_alike hZ.alike A.2.1) rfl A.2.2 (by rw [clamp_nat hi, S]; have := (in_of (i := i) (k := i + 1) rfl (Nat.lt_succ_self i)); rintro (q | q); rw [Int32.lt_iff_toInt_lt, toInt_nat hi] at q; have e0 : (0 : Int32).toInt = 0 := rfl; omega; simp at q; omega) (by rw [clamp_nat hi, S]; simpa using hv) (g := mkF m pc L (.int (Int32.ofNat i) :: .ref a :: r)) rfl rfl (hb hby d) t st) k
/-- a String of the start, read off the sheet's words -/
theorem eq_int_of {t : Term} {k : Int32} (h : (Cond.eq t (Term.int k)).value args Z none Z [] = some true) : t.eval args Z none [] Z = some (.int k) := by
  obtain ⟨x, y, hx1, hy1, -⟩ := cmp_v (Or.inl h)
  have hy2 : (Term.int k).eval args Z none [] Z = some (.int k) := rfl
  rw [hy2] at hy1; cases hy1
  cases x with
  | int i => rw [hx1, gotT (Cond.eq_ints hx1 hy2) h]
  | _ => simp [Cond.value, hx1, hy2] at h
theorem elem_slot {t : Term} {b : Addr} {cl : Cell} {i : Nat} {v : Value} (hb : t.eval args Z none [] Z = some (.ref b)) (hc : Z.heap[b]? = some cl) (hi : i < 2 ^ 31) (h : (Term.elem t (Term.int (Int32.ofNat i))).eval args Z none [] Z = some v) : cl.slots[i]? = some v := by
  have q := (elem_in h hb (Term.int_eval (Int32.ofNat i)) hc).2
  rwa [clamp_nat hi] at q
theorem str_of {t : Term} {cs : List Int32} {nn : Int32} (hx : (Cond.exactly t "java/lang/String").value args Z none Z [] = some true) (hc : (Cond.eq (Term.field t "java/lang/String" "coder" "B") (Term.int 0)).value args Z none Z [] = some true)
    (ha : (Cond.arrayOf (Term.field t "java/lang/String" "value" "[B") .byte).value args Z none Z [] = some true) (hl : (Cond.eq (Term.length (Term.field t "java/lang/String" "value" "[B")) (Term.int nn)).value args Z none Z [] = some true) (hnn : nn = Int32.ofNat cs.length) (h4 : cs.length ≤ 4000) (hp : ∀ c ∈ cs, ¬ c < 0 ∧ ¬ (255 : Int32) < c)
    (he : ∀ i, i < cs.length → (Cond.eq (Term.elem (Term.field t "java/lang/String" "value" "[B") (Term.int (Int32.ofNat i))) (Term.int (by8 (cs.getD i 0)))).value args Z none Z [] = some true) :
    ∃ r, t.eval args Z none [] Z = some (.ref r) ∧ Str Z Z.heap r cs := by
  subst hnn
  obtain ⟨r, er⟩ := exa_v hx
  have ec := eq_int_of hc
  rw [fld_at er] at ec
  obtain ⟨b, eb⟩ := arr_v ha
  obtain ⟨cl, A⟩ := Arr.start eb ha
  have el := eq_int_of hl
  obtain ⟨b', cl', eb', ec', hsz, ev⟩ := Jvm.Lib.length_spec el
  have eb2 := eb
  rw [fld_at er] at eb2
  cases eb.symm.trans eb'
  have hcl : cl' = cl := by
    have := A.1
    simp only [State.arrayAt?, Option.bind_eq_bind, Option.bind_eq_some_iff] at ec'
    obtain ⟨c1, h1, k1, -, h2⟩ := ec'
    rw [this] at h1
    cases h1
    split at h2
    · cases h2
    · split at h2
      · exact (Option.some.inj h2).symm
      · cases h2
  subst hcl
  have hsz2 : cl'.slots.size = cs.length := by
    have q := Value.int.inj ev
    have : (Int32.ofNat cs.length) = Int32.ofNat cl'.slots.size := q
    exact ((eq_nat (by omega) hsz).mp this).symm
  have hat : ∀ i, i < cs.length → cl'.slots[i]? = some (.int (by8 (cs.getD i 0))) := fun i hi => elem_slot eb A.1 (by omega) (eq_int_of (he i hi))
  have hgd : ∀ i, i < cs.length → ((cs.map fun c => c.toInt8.toInt32).map Value.int).getD i (.int 0) = .int (by8 (cs.getD i 0)) := fun i hi => by
    simp only [List.getD_eq_getElem?_getD, List.getElem?_map, by8]; rw [List.getElem?_eq_getElem hi]; rfl
  refine ⟨r, er, Exa.start er hx, Fld.start ec, ⟨b, cl'.cls, Fld.start eb2, cl', A, rfl, by rw [clamp_nat (by omega)]; exact hsz2, ?_, fun i hi => ?_, fun i hi => ?_⟩, hp, h4⟩
  · have := (in_of (i := 0) (k := cs.length + 1) rfl (by omega) (by omega))
    rw [Int32.lt_iff_toInt_lt, toInt_nat (by omega)]; show ¬ ((cs.length : Int) < 0); omega
  · rw [hgd i (by omega)]; exact hat i (by omega)
  · rw [hgd i (by omega)]; exact fits_nar_byte _
end ObjArr
section Hand
variable {nw : Prop} {EL : List (String × Nat)} {n0 : Nat} {Z : State} {a0 : Array Value} {own nm : String} {cd : ByteArray} {ml : Nat} {ret : Option FieldType} {p : Program} {l : Launch} {e : Env} {R : Room} {s : State} {m : MethodId} {args : Array Value} {below : List Frame} {meth : Method} {c : Code} {T : State} {h h' : Heap} {xs : List Addr} {cells slots : Nat}
variable {F : State → Prop} {pc n : Nat} {L : Array Slot} {r : List Value}
/-- a method with an exception table whose walk throws nothing and leaves the heap: narrow -/
theorem backH {y : MethodName} {bytes : ByteArray} {maxL len wt : Nat} {rt : Option FieldType} {hs : List (Nat × Nat × Nat × Nat)} {rm : Room} {as' : Array Value} {Q : Value → Prop} {L0 : Array Slot} (hpn : plainFor y = true) (hnw : nw) (hel : EL = []) (hO : Old Z n0 h) (ef : ∀ m, entryFrame m as' maxL = mkF m 0 L0 [])
    (hB : ∀ p e s m below meth c T, Wk nw EL n0 Z a0 y.cls y.name bytes maxL rt p l e rm s m as' below meth c T h [] 0 0 → Go p e below (Endp nw EL n0 Z below s rm.cells rm.slots (RV fun w h' => Q w ∧ h = h')) T (mkF m 0 L0 []))
    (hZ : Z.Warmed39 s.vm) (wc : (Cond.codeWith y bytes maxL rt hs).before a0 Z = true) (wz : (Cond.initialized y.cls).before a0 Z = true) (hf : rm.frames + 1 ≤ R.frames) (hl : wt + (maxL + 11) + rm.locals ≤ R.locals) :
    Back l R p e below s args y len wt (fun A a => a = as' ∧ A.U.heap = h ∧ A.cells + rm.cells ≤ R.cells ∧ A.slots + rm.slots ≤ R.slots)
      (fun A _ v B => ∃ Lc, ((∃ w, v = some w ∧ Q w) ∧ B.U.heap = h ∧ Fr n0 Lc) ∧ B.locs = A.locs ++ Lc ∧ B.cells = A.cells + rm.cells ∧ B.slots = A.slots + rm.slots) := by
  subst hel
  refine backOfWith (Q := fun v h' Lc => (∃ w, v = some w ∧ Q w) ∧ h' = h ∧ Fr n0 Lc) (MetFree.of_bodySF hpn hisWith ?_) hZ wc wz hf hl
  intro p e s m args below meth c s₁ Bd hml hP hK
  obtain ⟨rfl, hZ, hh⟩ := hP
  have X0 : Stand p l e rm s m args below meth c s₁ [] 0 0 := Stand.of_body Bd
  have e0 : s₁.heap = h := by rw [← hh, Bd.state]; rfl
  have W : Wk nw [] n0 Z a0 y.cls y.name bytes maxL rt p l e rm s m args below meth c s₁ h [] 0 0 :=
    ⟨s.vm, 0, [], X0, e0, (State.WarmedH.refl s).since 0, Nat.zero_le _, fun _ => State.WarmedH.refl s, hZ, findClass_of_methodNamed Bd.named, EW.nil, by rw [hh]; exact CHr.refl (fun q hq => nomatch hq), Fr.nil n0, hO, (fun x hm => nomatch hm), Bd.exec, Bd.bytes, hml, Bd.returns, Bd.notSynchronized, (name_of_methodNamed Bd.named Bd.method).1⟩
  obtain ⟨t, st, hrun, v, Lc, hend, ⟨w, rfl, q0, q1⟩, q2, q3, q4, q5, q6⟩ := hB p e s m below meth c s₁ W
  exact ⟨t, .returned (some w), castTop (ef m) st, hrun, hend, some w, Lc, rfl, ⟨⟨w, rfl, q0⟩, q1.symm, q2⟩, ⟨q5.1, q6 hnw, q5.2.2.2⟩⟩
/-- invokestatic of such a method -/
theorem Go.invsH (W : Wk nw EL n0 Z a0 own nm cd ml ret p l e R s m args below meth c T h xs cells slots) {y : MethodName} {bytes : ByteArray} {maxL ix wt kc ks cells' slots' : Nat} {rt : Option FieldType} {hd : List (Nat × Nat × Nat × Nat)} {argsL rest st0 : List Value} {Q : Value → Prop} {ps : List FieldType} {pr : Option FieldType}
    (hB : ∀ vm0, Z.Warmed39 vm0 → Back l R p e below (s.setVm vm0) args y 3 wt (fun A a => a = argsL.toArray ∧ A.U.heap = h ∧ A.cells + kc ≤ R.cells ∧ A.slots + ks ≤ R.slots) (fun A _ v B => ∃ Lc, ((∃ w, v = some w ∧ Q w) ∧ B.U.heap = h ∧ Fr n0 Lc) ∧ B.locs = A.locs ++ Lc ∧ B.cells = A.cells + kc ∧ B.slots = A.slots + ks)) (d : Dec cd pc (.invokestatic ix) 3 n)
    (w1 : (Cond.methodLink own ix y).before a0 Z = true) (w2 : (Cond.static y).before a0 Z = true) (w3 : (Cond.initialized y.cls).before a0 Z = true) (w4 : (Cond.codeWith y bytes maxL rt hd).before a0 Z = true) (hy : y.cls ≠ "java/lang/invoke/MethodHandle" ∧ y.cls ≠ "java/lang/invoke/VarHandle")
    (hpd : parseMethodDescriptor y.desc = some ⟨ps, pr⟩) (hlen : argsL.length = ps.length) (hsz : L.size = ml) (hst : st0 = argsL.reverse ++ rest) (hw : (rest.map fun v => v.category).sum ≤ wt) (hc : cells + kc = cells') (hs : slots + ks = slots') (hc' : cells' ≤ R.cells) (hs' : slots' ≤ R.slots)
    (k : ∀ T' v, Wk nw EL n0 Z a0 own nm cd ml ret p l e R s m args below meth c T' h xs cells' slots' → Q v → Go p e below F T' (mkF m n L (v :: rest))) : Go p e below F T (mkF m pc L st0) := by
  obtain ⟨vm0, k0, locs, X, eT, hS, hk, hn, hZ, ho, hE, hC, hF, hO, hxs, hx, hby, hml, rst⟩ := W
  obtain ⟨d, rfl⟩ := d
  subst hc hs hst
  obtain ⟨v, vm₁, B, hW1, X', ⟨Lc, ⟨⟨w, rfl, hq⟩, hh, hF'⟩, r1, r2, r3⟩, st⟩ := callSH X hx ho (mv hZ w1) (mv hZ w2) (mv hZ w3) (mv hZ w4) hy (hB vm0 hZ) (g := mkF m pc L (argsL.reverse ++ rest)) rfl (hsz.trans hml.symm) (argsL := argsL) (rest := rest) (lenOf hpd hlen) rfl (by show 2 * 0 + _ ≤ _; omega) (hb hby d) (fun _ _ => ⟨rfl, eT, hc', hs'⟩)
  have K : Keep h B.U.heap [] := by rw [hh]; exact Keep.refl h []
  have C1 : CHr Z EL vm0 h vm0 B.U.heap := CHr.keep K (fun x hm => nomatch hm) hC.1
  have W' := Wk.after X eT hS hk hn hZ ho hE hC hF hO hxs ⟨hx, hby, hml, rst⟩ (X'.retabled X'.warmed.wide) (X'.warmed.since _) (by rw [eT]; exact K.1) r1 r2 r3 hF' (hO.keep K (fun x hm => nomatch hm)) (C1.trans (CHv.at X' hZ hE C1.1)) (fun _ => X'.warmed)
  rw [hh] at W'
  exact Go.st st (k B.U w W' hq)
/-- a class one of whose methods is selected is no interface -/
theorem notFace_like {args : Array Value} {s : State} {D : String} {u y : MethodName} (hsel : (Cond.selects D u u).before args s = true) (hu : u.cls = y.cls) : NotFace s y := fun r0 h0 => by
  obtain ⟨c2, r2, m2, q1, q2, q3, q4, kP, hkP, hkPi⟩ := Cond.selects_spec hsel
  have e1 := findClass_of_methodNamed h0
  have e2 := findClass_of_methodNamed q3
  rw [hu] at e2
  have e3 : m2.cls = r0.cls := Option.some.inj (e2.symm.trans e1)
  exact ⟨kP, e3 ▸ hkP, hkPi⟩
/-- invokevirtual where another class's method is selected -/
theorem Go.invvS1 (W : Wk nw EL n0 Z a0 own nm cd ml ret p l e R s m args below meth c T h xs cells slots) {y z u : MethodName} {C D : String} {ix wt kc ks cells' slots' : Nat} {argsL rest st0 : List Value} {b : Addr} {Q : Value → Heap → Prop} {ps : List FieldType} {pr : Option FieldType} (w0 : (Cond.selects D u u).before a0 Z = true) (hu : u.cls = y.cls) (hK : Call nw EL n0 Z xs l R p e below s args z 3 wt (.ref b :: argsL).toArray h kc ks (RV Q)) (d : Dec cd pc (.invokevirtual ix) 3 n)
    (w1 : (Cond.methodLink own ix y).before a0 Z = true) (w2 : (Cond.declares y).before a0 Z = true) (w3 : (Cond.selects C y z).before a0 Z = true) (w4 : (Cond.instanceMethod z).before a0 Z = true) (hy : y.cls ≠ "java/lang/invoke/MethodHandle" ∧ y.cls ≠ "java/lang/invoke/VarHandle") (E : Exa Z h b C)
    (hpd : parseMethodDescriptor y.desc = some ⟨ps, pr⟩) (hlen : argsL.length = ps.length) (hsz : L.size = ml) (hst : st0 = argsL.reverse ++ .ref b :: rest) (hw : (rest.map fun v => v.category).sum ≤ wt) (hc : cells + kc = cells') (hs : slots + ks = slots') (hc' : cells' ≤ R.cells) (hs' : slots' ≤ R.slots)
    (k : ∀ T' h' v, Wk nw EL n0 Z a0 own nm cd ml ret p l e R s m args below meth c T' h' xs cells' slots' → h.size ≤ h'.size → Q v h' → Go p e below F T' (mkF m n L (v :: rest))) : Go p e below F T (mkF m pc L st0) :=
  Go.invv W hK d w1 w2 w3 w4 hy E hpd hlen hsz hst hw hc hs hc' hs' (fun _ hZ => notFace_like (args := #[]) (mvT hZ w0) hu) (fun T' h' v W' g q => by obtain ⟨w, rfl, q⟩ := q; exact k T' h' w W' g q)
/-- baload of a byte[] of which one slot is known -/
theorem Go.baloadAt (W : Wk nw EL n0 Z a0 own nm cd ml ret p l e R s m args below meth c T h xs cells slots) {a : Addr} {cl : Cell} {j : Int32} {v : Value} (i : Nat) (d : Dec cd pc .baload 1 n) (A : Arr Z h a cl .byte) (hj : j = Int32.ofNat i) (hi : i < 2 ^ 31) (hv : cl.slots[i]? = some v)
    (k : Go p e below F T (mkF m n L (v :: r))) : Go p e below F T (mkF m pc L (.int j :: .ref a :: r)) := by
  obtain ⟨vm0, k0, locs, X, eT, hS, hk, hn, hZ, ho, hE, hC, hF, hO, hxs, hx, hby, rest⟩ := W
  obtain ⟨d, rfl⟩ := d
  subst hj
  have hlt : i < cl.slots.size := (Array.getElem?_eq_some_iff.mp hv).1
  exact Go.st (fun t st => X.baloadBytes hx (by rw [eT]; exact A.1) (State.isArrayOf_alike hZ.alike A.2.1) A.2.2 (by rw [clamp_nat hi]; rintro (q | q); rw [Int32.lt_iff_toInt_lt, toInt_nat hi] at q; have e0 : (0 : Int32).toInt = 0 := rfl; omega; omega) (by rw [clamp_nat hi]; exact hv) (g := mkF m pc L (.int (Int32.ofNat i) :: .ref a :: r)) rfl rfl (hb hby d) t st) k
theorem div_nat {a b : Nat} (ha : a < 2 ^ 31) (hb : b < 2 ^ 31) (h0 : 0 < b) : Int32.ofNat a / Int32.ofNat b = Int32.ofNat (a / b) := by
  have hle : a / b ≤ a := Nat.div_le_self a b
  rw [← Int32.toInt_inj, Int32.toInt_div, toInt_nat ha, toInt_nat hb, toInt_nat (by omega)]
  rw [show ((a : Int).tdiv (b : Int)) = ((a / b : Nat) : Int) from rfl]
  generalize a / b = q at hle
  exact Int.bmod_eq_of_le (by omega) (by omega)
theorem neg_int {a : Nat} (ha : a < 2 ^ 31) : (-(Int32.ofNat a)).toInt = -(a : Int) := by
  rw [Int32.toInt_neg, toInt_nat ha]
  exact Int.bmod_eq_of_le (by omega) (by omega)
theorem step10 (a d : Nat) : -(Int32.ofNat a) * 10 - Int32.ofNat d = -(Int32.ofNat (10 * a + d)) := by
  rw [Int32.ofNat_add, Int32.ofNat_mul, show Int32.ofNat 10 = 10 from rfl]
  grind
end Hand
section Sb
variable {nw : Prop} {EL : List (String × Nat)} {n0 : Nat} {Z : State} {a0 : Array Value} {own nm : String} {cd : ByteArray} {ml : Nat} {ret : Option FieldType} {p : Program} {l : Launch} {e : Env} {R : Room} {s : State} {m : MethodId} {args : Array Value} {below : List Frame} {meth : Method} {c : Code} {T : State} {h h' : Heap} {xs : List Addr} {cells slots : Nat}
variable {F : State → Prop} {pc n : Nat} {L : Array Slot} {r : List Value}
/-- the word sameMethod, of a class that declares the method and is no interface -/
theorem same_of {D : String} {u y : MethodName} (w0 : (Cond.selects D u u).before a0 Z = true) (hu : u.cls = y.cls) (w : (Cond.instanceMethod y).before a0 Z = true) (hy : y.cls ≠ "java/lang/invoke/MethodHandle" ∧ y.cls ≠ "java/lang/invoke/VarHandle") : (Cond.sameMethod y.cls y.cls y.name y.desc).before a0 Z = true := by
  obtain ⟨mk, methM, hn, hm, -, -⟩ := Cond.instanceMethod_spec w
  have hf := State.methodFound?_of_named hn hy
  obtain ⟨k, hk, hi⟩ := notFace_like w0 hu mk hn
  have hc := findClass_of_methodNamed hn
  simp only [Cond.before, Cond.holds, Cond.value, hc, hf, hn, hk]
  simp [hi]
/-- the word declares, of an instance method whose code is known -/
theorem decl_of {y : MethodName} {bytes : ByteArray} {maxL : Nat} {rt : Option FieldType} (w : (Cond.instanceMethod y).before a0 Z = true) (wc : (Cond.code y bytes maxL rt).before a0 Z = true) : (Cond.declares y).before a0 Z = true := by
  obtain ⟨mk, methM, hn, hm, hst, -⟩ := Cond.instanceMethod_spec w
  obtain ⟨m2, c2, q1, -, -, -, -, -, -, hsig⟩ := Cond.code_spec hn wc
  cases hm.symm.trans q1
  simp only [Cond.before, Cond.holds, Cond.value, hn, hm, Option.bind_some, Option.map_some]
  simp [hst, hsig]
theorem Go.dup_x1 (C : Cx p below m c cd T) {x y : Value} (d : Dec cd pc .dup_x1 1 n) (hx : x.category = 1) (hy : y.category = 1)
    (k : Go p e below F T (mkF m n L (x :: y :: x :: r))) : Go p e below F T (mkF m pc L (x :: y :: r)) := by
  obtain ⟨t, st, f⟩ := k; obtain ⟨d, rfl⟩ := d
  exact ⟨t, XT.dupX1 C.1 C.2.1 rfl (hb C.2.2 d) rfl hx hy st, f⟩
theorem Go.ishr (C : Cx p below m c cd T) {x y : Int32} (d : Dec cd pc .ishr 1 n)
    (k : Go p e below F T (mkF m n L (.int (x >>> (y &&& 31)) :: r))) : Go p e below F T (mkF m pc L (.int y :: .int x :: r)) := by
  obtain ⟨t, st, f⟩ := k; obtain ⟨d, rfl⟩ := d
  exact ⟨t, XT.ishr C.1 C.2.1 rfl (hb C.2.2 d) rfl st, f⟩
/-- invokespecial of the superclass's method, a value returned -/
theorem Go.sup1 (W : Wk nw EL n0 Z a0 own nm cd ml ret p l e R s m args below meth c T h xs cells slots) {y u : MethodName} {D K : String} {bytes : ByteArray} {maxL ix wt kc ks cells' slots' : Nat} {rt : Option FieldType} {argsL rest st0 : List Value} {b : Addr} {Q : Value → Heap → Prop} {ps : List FieldType} {pr : Option FieldType}
    (w0 : (Cond.selects D u u).before a0 Z = true) (hu : u.cls = y.cls) (hK : Call nw EL n0 Z xs l R p e below s args y 3 wt (.ref b :: argsL).toArray h kc ks (RV Q)) (d : Dec cd pc (.invokespecial ix) 3 n)
    (hy1 : y.name ≠ "<init>") (w1 : (Cond.methodLink own ix y).before a0 Z = true) (w3 : (Cond.instanceMethod y).before a0 Z = true) (w4 : (Cond.superclass own y.cls).before a0 Z = true) (wc : (Cond.code y bytes maxL rt).before a0 Z = true) (hy : y.cls ≠ "java/lang/invoke/MethodHandle" ∧ y.cls ≠ "java/lang/invoke/VarHandle") (I : Ins Z h b K true)
    (hpd : parseMethodDescriptor y.desc = some ⟨ps, pr⟩) (hlen : argsL.length = ps.length) (hsz : L.size = ml) (hst : st0 = argsL.reverse ++ .ref b :: rest) (hw : (rest.map fun v => v.category).sum ≤ wt) (hc : cells + kc = cells') (hs : slots + ks = slots') (hc' : cells' ≤ R.cells) (hs' : slots' ≤ R.slots)
    (k : ∀ T' h' v, Wk nw EL n0 Z a0 own nm cd ml ret p l e R s m args below meth c T' h' xs cells' slots' → h.size ≤ h'.size → Q v h' → Go p e below F T' (mkF m n L (v :: rest))) : Go p e below F T (mkF m pc L st0) := by
  obtain ⟨vm0, k0, locs, X, eT, hS, hk, hn, hZ, ho, hE, hC, hF, hO, hxs, hx, hby, hml, rst⟩ := W
  obtain ⟨d, rfl⟩ := d
  subst hc hs hst
  obtain ⟨v, vm₁, B, hW1, X', hS2, hg, ⟨Lc, hq, r1, r2, r3, hF', hO', hC', hn'⟩, st⟩ := superBackS X hx hZ ho w1 (same_of w0 hu w3 hy) w3 w4 hy1 (hK vm0 hZ hC.1 hO hxs) eT I (g := mkF m pc L (argsL.reverse ++ .ref b :: rest)) rfl (hsz.trans hml.symm) wc (argsL := argsL) (rest := rest) (lenOf hpd hlen) rfl (by show 2 * 0 + _ ≤ _; omega) (hb hby d) (fun _ _ => ⟨rfl, eT, hc', hs'⟩)
  obtain ⟨w, rfl, hq⟩ := hq
  exact Go.run st (k B.U B.U.heap w (Wk.after X eT hS hk hn hZ ho hE hC hF hO hxs ⟨hx, hby, hml, rst⟩ X' hS2 hg r1 r2 r3 hF' hO' hC' hn') (eT ▸ hg) hq)
/-- System.arraycopy between byte arrays, into one of the walk's own: from sp on, the target from 0 on -/
theorem Go.acopyB (W : Wk nw EL n0 Z a0 own nm cd ml ret p l e R s m args below meth c T h xs cells slots) {ix wt : Nat} {a b : Addr} {ka kb : ClassId} {cs ds : List Int32} {sp nn : Nat} (d : Dec cd pc (.invokestatic ix) 3 n) (w1 : (Cond.methodLink own ix Jvm.Stand.acN).before a0 Z = true) (w2 : (Cond.native Jvm.Stand.acN).before a0 Z = true) (w3 : (Cond.static Jvm.Stand.acN).before a0 Z = true) (w4 : (Cond.initialized "java/lang/System").before a0 Z = true)
    (A : BArr Z h a ka cs) (B : BArr Z h b kb ds) (hb' : b ∈ xs) (h1 : sp + nn ≤ cs.length) (h2 : nn = ds.length) (h3 : cs.length < 2 ^ 31) (h4 : ds.length < 2 ^ 31) (hsz : L.size = ml) (hf : 1 ≤ R.frames) (hw : (r.map fun v => v.category).sum ≤ wt) (hl : wt + (nativeFrameWords "java/lang/System" "arraycopy" 5 + 11) ≤ R.locals)
    (k : ∀ T' h', Wk nw EL n0 Z a0 own nm cd ml ret p l e R s m args below meth c T' h' xs cells slots → Keep h h' [b] → BArr Z h' b kb ((cs.drop sp).take nn) → Go p e below F T' (mkF m n L r)) : Go p e below F T (mkF m pc L (.int (Int32.ofNat nn) :: .int 0 :: .ref b :: .int (Int32.ofNat sp) :: .ref a :: r)) := by
  obtain ⟨vm0, k0, locs, X, eT, hS, hk, hn, hZ, ho, hE, hC, hF, hO, hxs, hx, hby, hml, rst⟩ := W
  obtain ⟨d, rfl⟩ := d
  have q := hxs b hb'
  have nn0 : ∀ t : Nat, t < 2 ^ 31 → ¬ Int32.ofNat t < 0 := fun t ht => by rw [Int32.lt_iff_toInt_lt, toInt_nat ht]; show ¬ ((t : Int) < 0); omega
  have cl0 : (0 : Int32).toNatClampNeg = 0 := by decide
  have hlen1 : ((cs.drop sp).take nn).length = ds.length := by rw [List.length_take, List.length_drop]; omega
  obtain ⟨T', h', Lc, X', e', N, K, B', st⟩ := cpA X hx hZ ho w1 w2 w3 w4 eT A B (Or.inl ⟨rfl, rfl⟩) (sp := Int32.ofNat sp) (dp := 0) (nn := Int32.ofNat nn) (us := ((cs.drop sp).take nn).map (fun c => Value.int c.toInt8.toInt32)) (nn0 sp (by omega)) (by decide) (nn0 nn (by omega))
    (by rw [clamp_nat (by omega), clamp_nat (by omega), clamp_nat h3]; exact h1) (by rw [cl0, clamp_nat (by omega), clamp_nat h4]; omega)
    (by
      rw [clamp_nat (by omega), clamp_nat (by omega)]
      apply List.ext_getElem?
      intro i
      by_cases hi : i < nn
      · rw [List.getElem?_map, List.getElem?_take, if_pos hi, List.getElem?_drop, List.getElem?_map, List.getElem?_range hi]
        simp only [Option.map_some, List.getD_eq_getElem?_getD, List.getElem?_map]
        rw [List.getElem?_eq_getElem (show sp + i < cs.length by omega)]
        rfl
      · rw [List.getElem?_eq_none (by rw [List.length_map, hlen1]; omega), List.getElem?_eq_none (by rw [List.length_map, List.length_range]; omega)])
    (by rw [cl0, clamp_nat (by omega), List.length_map, List.length_map]; omega) hF q.1 (g := mkF m pc L (.int (Int32.ofNat nn) :: .int 0 :: .ref b :: .int (Int32.ofNat sp) :: .ref a :: r)) rfl (hsz.trans hml.symm) rfl (hb hby d) hf (W := wt) (by show 2 * 0 + _ ≤ _; omega) hl
  have C1 : CHr Z EL vm0 h vm0 h' := CHr.keep K (fun x hm => by cases List.mem_singleton.mp hm; exact q.2.2) hC.1
  have B2 : BArr Z h' b kb ((cs.drop sp).take nn) := by
    unfold BArr
    rw [hlen1, List.map_map]
    have e0 : List.drop (0 + nn) ((ds.map fun c => c.toInt8.toInt32).map Value.int) = [] := List.drop_eq_nil_of_le (by rw [List.length_map, List.length_map]; omega)
    rw [cl0, clamp_nat (by omega), e0, List.append_nil] at B'
    simpa [h2, Function.comp_def] using B'
  exact Go.st st (k T' h' ⟨vm0, k0, _, X', e', hS, Nat.le_trans hk K.1, hn, hZ, ho, hE, hC.trans C1, N, hO.keep K (fun x hm => by cases List.mem_singleton.mp hm; exact q.1), fun x hm => ⟨(hxs x hm).1, Nat.lt_of_lt_of_le (hxs x hm).2.1 K.1, C1.safe (hxs x hm).2.1 (hxs x hm).2.2⟩, hx, hby, hml, rst⟩ K B2)
/-- the same, into the front of a longer array -/
theorem Go.acopyG (W : Wk nw EL n0 Z a0 own nm cd ml ret p l e R s m args below meth c T h xs cells slots) {ix wt : Nat} {a b : Addr} {ka kb : ClassId} {cs ds : List Int32} {sp nn : Nat} (d : Dec cd pc (.invokestatic ix) 3 n) (w1 : (Cond.methodLink own ix Jvm.Stand.acN).before a0 Z = true) (w2 : (Cond.native Jvm.Stand.acN).before a0 Z = true) (w3 : (Cond.static Jvm.Stand.acN).before a0 Z = true) (w4 : (Cond.initialized "java/lang/System").before a0 Z = true)
    (A : BArr Z h a ka cs) (B : BArr Z h b kb ds) (hb' : b ∈ xs) (h1 : sp + nn ≤ cs.length) (h2 : nn ≤ ds.length) (h3 : cs.length < 2 ^ 31) (h4 : ds.length < 2 ^ 31) (hsz : L.size = ml) (hf : 1 ≤ R.frames) (hw : (r.map fun v => v.category).sum ≤ wt) (hl : wt + (nativeFrameWords "java/lang/System" "arraycopy" 5 + 11) ≤ R.locals)
    (k : ∀ T' h', Wk nw EL n0 Z a0 own nm cd ml ret p l e R s m args below meth c T' h' xs cells slots → Keep h h' [b] → BArr Z h' b kb ((cs.drop sp).take nn ++ ds.drop nn) → Go p e below F T' (mkF m n L r)) : Go p e below F T (mkF m pc L (.int (Int32.ofNat nn) :: .int 0 :: .ref b :: .int (Int32.ofNat sp) :: .ref a :: r)) := by
  obtain ⟨vm0, k0, locs, X, eT, hS, hk, hn, hZ, ho, hE, hC, hF, hO, hxs, hx, hby, hml, rst⟩ := W
  obtain ⟨d, rfl⟩ := d
  have q := hxs b hb'
  have nn0 : ∀ t : Nat, t < 2 ^ 31 → ¬ Int32.ofNat t < 0 := fun t ht => by rw [Int32.lt_iff_toInt_lt, toInt_nat ht]; show ¬ ((t : Int) < 0); omega
  have cl0 : (0 : Int32).toNatClampNeg = 0 := by decide
  have hlen1 : ((cs.drop sp).take nn).length = nn := by rw [List.length_take, List.length_drop]; omega
  obtain ⟨T', h', Lc, X', e', N, K, B', st⟩ := cpA X hx hZ ho w1 w2 w3 w4 eT A B (Or.inl ⟨rfl, rfl⟩) (sp := Int32.ofNat sp) (dp := 0) (nn := Int32.ofNat nn) (us := ((cs.drop sp).take nn).map (fun c => Value.int c.toInt8.toInt32)) (nn0 sp (by omega)) (by decide) (nn0 nn (by omega))
    (by rw [clamp_nat (by omega), clamp_nat (by omega), clamp_nat h3]; exact h1) (by rw [cl0, clamp_nat (by omega), clamp_nat h4]; omega)
    (by
      rw [clamp_nat (by omega), clamp_nat (by omega)]
      apply List.ext_getElem?
      intro i
      by_cases hi : i < nn
      · rw [List.getElem?_map, List.getElem?_take, if_pos hi, List.getElem?_drop, List.getElem?_map, List.getElem?_range hi]
        simp only [Option.map_some, List.getD_eq_getElem?_getD, List.getElem?_map]
        rw [List.getElem?_eq_getElem (show sp + i < cs.length by omega)]
        rfl
      · rw [List.getElem?_eq_none (by rw [List.length_map, hlen1]; omega), List.getElem?_eq_none (by rw [List.length_map, List.length_range]; omega)])
    (by rw [cl0, clamp_nat (by omega), List.length_map, List.length_map]; omega) hF q.1 (g := mkF m pc L (.int (Int32.ofNat nn) :: .int 0 :: .ref b :: .int (Int32.ofNat sp) :: .ref a :: r)) rfl (hsz.trans hml.symm) rfl (hb hby d) hf (W := wt) (by show 2 * 0 + _ ≤ _; omega) hl
  have C1 : CHr Z EL vm0 h vm0 h' := CHr.keep K (fun x hm => by cases List.mem_singleton.mp hm; exact q.2.2) hC.1
  have B2 : BArr Z h' b kb ((cs.drop sp).take nn ++ ds.drop nn) := by
    unfold BArr
    rw [List.length_append, hlen1, List.length_drop, show nn + (ds.length - nn) = ds.length by omega, List.map_append, List.map_append, List.map_map]
    rw [cl0, clamp_nat (by omega), Nat.zero_add, List.take_zero, List.nil_append] at B'
    simpa [Function.comp_def] using B'
  exact Go.st st (k T' h' ⟨vm0, k0, _, X', e', hS, Nat.le_trans hk K.1, hn, hZ, ho, hE, hC.trans C1, N, hO.keep K (fun x hm => by cases List.mem_singleton.mp hm; exact q.1), fun x hm => ⟨(hxs x hm).1, Nat.lt_of_lt_of_le (hxs x hm).2.1 K.1, C1.safe (hxs x hm).2.1 (hxs x hm).2.2⟩, hx, hby, hml, rst⟩ K B2)
/-- a byte[] whose length is no constant's is no constant's array -/
theorem Wk.bar (W : Wk nw EL n0 Z a0 own nm cd ml ret p l e R s m args below meth c T h xs cells slots) {b : Addr} {kb : ClassId} {cs : List Int32} (A : BArr Z h b kb cs) (hx : n0 ≤ b) (hl : cs.length < 2 ^ 31)
    (hT : ∀ p ∈ EL, ∃ text : String, (Cond.stringLink p.1 p.2 text).before a0 Z = true ∧ (∀ c ∈ text.toList, c.toNat < 256) ∧ text.toList.length ≠ cs.length) : Wk nw EL n0 Z a0 own nm cd ml ret p l e R s m args below meth c T h (b :: xs) cells slots := by
  obtain ⟨vm0, k0, locs, X, eT, hS, hk, hn, hZ, ho, hE, hC, hF, hO, hxs, rest⟩ := W
  refine ⟨vm0, k0, locs, X, eT, hS, hk, hn, hZ, ho, hE, hC, hF, hO, fun y q => ?_, rest⟩
  rcases List.mem_cons.mp q with rfl | q
  · refine ⟨hx, A.lt, fun B => ?_⟩
    obtain ⟨cl, A1, -, S1, M1, -, -⟩ := A
    rw [clamp_nat hl] at S1
    obtain ⟨p, hp, u, a, hb, q, -, F, e | e⟩ := B
    · have h1 := F.ha
      rw [← e] at h1
      obtain ⟨A0, ⟨-, kA, hkA, compA, hkindA⟩, -⟩ := A1
      obtain ⟨kA', hkA', ekA⟩ := hZ.alike.2.2 _ _ hkA
      have ec : q.sC = cl := Option.some.inj ((show h[y]? = some q.sC from h1).symm.trans A0)
      obtain ⟨cS, ⟨-, -, e2⟩, ⟨kS, g1, g2, -⟩, -⟩ := F
      rw [← e2, ec] at g1
      have ek : kS = kA' := Option.some.inj ((show vm0.classes[cl.cls]? = some kS from g1).symm.trans hkA')
      rw [ek, ekA, hkindA] at g2
      cases g2
    · have h1 := F.hd
      rw [← e] at h1
      have ec : q.SA = cl := Option.some.inj ((show h[y]? = some q.SA from h1).symm.trans A1.1)
      obtain ⟨cS, -, -, -, hsl⟩ := F
      rw [ec] at hsl
      obtain ⟨text, w, ht, hne⟩ := hT p hp
      obtain ⟨c1, k1, cf, i, hc1, hk1, hcf, hpool, hu, -⟩ := hb
      have w2 : (Cond.stringLink p.1 p.2 text).before a0 (Wst Z vm0 h) = true := mvS (s := { Z with heap := h }) hZ w
      obtain ⟨k2, cf2, i2, u2, hk2, hcf2, hp2, hu2, -, htext, -⟩ := Cond.stringLink_spec (s := Wst Z vm0 h) hc1 w2
      cases hk1.symm.trans hk2
      cases hcf.symm.trans hcf2
      cases hpool.symm.trans hp2
      cases hu.symm.trans hu2
      have hlat := Jvm.ClassFile.lat_of_text htext ht
      have hs2 : (stringBytes u).size = u.size := by simp [stringBytes, hlat]
      have hsz := Jvm.ClassFile.app_eq u.toList "" text (fun z hz => by have := Array.all_eq_true_iff_forall_mem.mp hlat z (Array.mem_toList_iff.mp hz); exact of_decide_eq_true this) htext
      have hl2 : text.toList.length = u.size := by rw [hsz]; simp
      rw [hsl, hs2] at S1
      exact hne (hl2.trans S1)
  · exact hxs y q
end Sb
section Ints
variable {nw : Prop} {EL : List (String × Nat)} {n0 : Nat} {Z : State} {a0 : Array Value} {own nm : String} {cd : ByteArray} {ml : Nat} {ret : Option FieldType} {p : Program} {l : Launch} {e : Env} {R : Room} {s : State} {m : MethodId} {args : Array Value} {below : List Frame} {meth : Method} {c : Code} {T : State} {h h' : Heap} {xs : List Addr} {cells slots : Nat}
variable {F : State → Prop} {pc n : Nat} {L : Array Slot} {r : List Value}
/-- iaload of an int[] of which one slot is known -/
theorem Go.ialoadAt (W : Wk nw EL n0 Z a0 own nm cd ml ret p l e R s m args below meth c T h xs cells slots) {a : Addr} {cl : Cell} {j : Int32} {v : Value} (i : Nat) (d : Dec cd pc .iaload 1 n) (A : Arr Z h a cl .int) (hj : j = Int32.ofNat i) (hi : i < 2 ^ 31) (hv : cl.slots[i]? = some v)
    (k : Go p e below F T (mkF m n L (v :: r))) : Go p e below F T (mkF m pc L (.int j :: .ref a :: r)) := by
  obtain ⟨vm0, k0, locs, X, eT, hS, hk, hn, hZ, ho, hE, hC, hF, hO, hxs, hx, hby, rest⟩ := W
  obtain ⟨d, rfl⟩ := d
  subst hj
  have hlt : i < cl.slots.size := (Array.getElem?_eq_some_iff.mp hv).1
  exact Go.st (fun t st => X.iaload hx (by rw [eT]; exact A.1) (State.isArrayOf_alike hZ.alike A.2.1) A.2.2 (by rw [clamp_nat hi]; rintro (q | q); rw [Int32.lt_iff_toInt_lt, toInt_nat hi] at q; have e0 : (0 : Int32).toInt = 0 := rfl; omega; omega) (by rw [clamp_nat hi]; exact hv) (g := mkF m pc L (.int (Int32.ofNat i) :: .ref a :: r)) rfl rfl (hb hby d) t st) k
theorem by8_and {x : Int32} (h : ¬ x < 0 ∧ ¬ (255 : Int32) < x) : by8 x &&& 255 = x := by
  obtain ⟨k, hk, rfl⟩ := ch_cases h
  exact (by decide +kernel : ∀ k : Fin 256, by8 (Int32.ofNat k.val) &&& 255 = Int32.ofNat k.val) ⟨k, hk⟩
/-- two Strings of different lengths are two -/
theorem Str.ne {a b : Addr} {cs ds : List Int32} (S : Str Z h a cs) (S2 : Str Z h b ds) (hne : cs.length ≠ ds.length) : a ≠ b := fun q => by
  subst q
  obtain ⟨-, -, ⟨b1, k1, V1, A1⟩, -, l1⟩ := S
  obtain ⟨-, -, ⟨b2, k2, V2, A2⟩, -, l2⟩ := S2
  have e : (Value.ref b1) = .ref b2 := Classical.byContradiction fun q => (Fld.ne V1 V2 q) rfl
  cases e
  obtain ⟨c1, q1, -, s1, -⟩ := A1
  obtain ⟨c2, q2, -, s2, -⟩ := A2
  cases q1.1.symm.trans q2.1
  rw [clamp_nat (by omega)] at s1 s2
  exact hne (s1.symm.trans s2)
theorem dec1_nat {a : Nat} (h0 : 0 < a) (ha : a < 2 ^ 31) : Int32.ofNat a + Int32.ofInt (-1) = Int32.ofNat (a - 1) := by
  rw [← Int32.toInt_inj, Int32.toInt_add, toInt_nat ha, toInt_nat (by omega), show (Int32.ofInt (-1)).toInt = -1 from by decide]
  exact (Int.bmod_eq_of_le (by omega) (by omega)).trans (by omega)
end Ints
section Lst
variable {nw : Prop} {EL : List (String × Nat)} {n0 : Nat} {Z : State} {a0 : Array Value} {own nm : String} {cd : ByteArray} {ml : Nat} {ret : Option FieldType} {p : Program} {l : Launch} {e : Env} {R : Room} {s : State} {m : MethodId} {args : Array Value} {below : List Frame} {meth : Method} {c : Code} {T : State} {h h' : Heap} {xs : List Addr} {cells slots : Nat}
variable {F : State → Prop} {pc n : Nat} {L : Array Slot} {r : List Value}
/-- an array of references that takes whatever is a C -/
def OAw (Z : State) (h : Heap) (a : Addr) (C ad : String) (vs : List Value) : Prop := ∃ cl : Cell, Arr Z h a cl (.object C) ∧ Exa Z h a ad ∧ cl.slots = vs.toArray ∧ (∀ v ∈ vs, v.isRef = true) ∧ Ovr Z cl.cls C
theorem OAw.oar {a : Addr} {C ad : String} {vs : List Value} (O : OAw Z h a C ad vs) : OAr Z h a C ad vs := by obtain ⟨cl, A, E, S, hv, -⟩ := O; exact ⟨cl, A, E, S, hv⟩
theorem OAw.lt {a : Addr} {C ad : String} {vs : List Value} (O : OAw Z h a C ad vs) : a < h.size := O.oar.lt
theorem OAw.ext {a : Addr} {C ad : String} {vs : List Value} (O : OAw Z h a C ad vs) (E : Ext h h') : OAw Z h' a C ad vs := by obtain ⟨cl, A, X, S⟩ := O; exact ⟨cl, A.ext E, X.ext E, S⟩
theorem OAw.keep {a : Addr} {C ad : String} {vs : List Value} {ws : List Addr} (O : OAw Z h a C ad vs) (K : Keep h h' ws) (q : a ∉ ws) : OAw Z h' a C ad vs := by obtain ⟨cl, A, X, S⟩ := O; exact ⟨cl, ⟨K.2.1 a cl A.1 q, A.2⟩, X.keep K, S⟩
theorem OAw.other {a b : Addr} {C ad : String} {vs : List Value} {sl : Nat} {v : Value} (O : OAw Z h b C ad vs) (W : Wr h h' a sl v) (q : b ≠ a) : OAw Z h' b C ad vs := O.keep (Keep.of_wr W) (fun z => q (List.mem_singleton.mp z))
theorem OAr.other {a b : Addr} {C ad : String} {vs : List Value} {sl : Nat} {v : Value} (O : OAr Z h b C ad vs) (W : Wr h h' a sl v) (q : b ≠ a) : OAr Z h' b C ad vs := O.keep (Keep.of_wr W) (fun z => q (List.mem_singleton.mp z))
/-- anewarray -/
theorem Go.newobjs (W : Wk nw EL n0 Z a0 own nm cd ml ret p l e R s m args below meth c T h xs cells slots) {C ad : String} {ix cells' slots' : Nat} {z : Int32} (k0' : Nat) (d : Dec cd pc (.anewarray ix) 3 n) (w1 : (Cond.classLink own ix C).before a0 Z = true) (w2 : (Cond.arrayOver (.object C)).before a0 Z = true)
    (hz : z = Int32.ofNat k0') (hk0 : k0' < 67108864) (hc : cells + 1 = cells') (hs : slots + k0' = slots') (hc' : cells' ≤ R.cells) (hs' : slots' ≤ R.slots) (had : "[" ++ (FieldType.object C).toString = ad)
    (k : ∀ T' h' a, a = h.size → Wk nw EL n0 Z a0 own nm cd ml ret p l e R s m args below meth c T' h' (a :: xs) cells' slots' → Ext h h' → OAw Z h' a C ad (List.replicate k0' .null) → Go p e below F T' (mkF m n L (.ref a :: r))) : Go p e below F T (mkF m pc L (.int z :: r)) := by
  obtain ⟨vm0, k0, locs, X, eT, hS, hk, hn, hZ, ho, hE, hC, hF, hO, hxs, hx, hby, rest⟩ := W
  obtain ⟨d, rfl⟩ := d
  subst hc hs hz
  have hcl : (Int32.ofNat k0').toNatClampNeg = k0' := clamp_nat (by omega)
  obtain ⟨T', h', cA, X', e', E, A, A2, O, st⟩ := newRE X hx hZ ho w1 w2 eT (g := mkF m pc L (.int (Int32.ofNat k0') :: r)) rfl (hb hby d) rfl (by rw [Int32.lt_iff_toInt_lt, toInt_nat (by omega)]; show ¬ ((k0' : Int) < 0); omega) (cap := k0') (by rw [hcl]; exact Nat.le_refl _) (by omega) hc' hs' had
  have C1 := CHr.ext E hC.1
  refine Go.st st (k T' h' h.size rfl ⟨vm0, k0, locs, X', e', hS, Nat.le_trans hk E.1, hn, hZ, ho, hE, hC.trans C1, hF, hO.ext E, fun x hm => ?_, hx, hby, rest⟩ E ⟨_, A, A2, ?_, ?_, O⟩)
  · rcases List.mem_cons.mp hm with rfl | hm
    · exact ⟨old_le hO, A.lt, Safe.ext E hC.1 (Safe.new (Nat.le_refl _))⟩
    · exact ⟨(hxs x hm).1, Nat.lt_of_lt_of_le (hxs x hm).2.1 E.1, C1.safe (hxs x hm).2.1 (hxs x hm).2.2⟩
  · show Array.replicate _ _ = _
    rw [hcl]; simp [defaultValue]
  · intro v hv
    rw [List.eq_of_mem_replicate hv]; rfl
/-- aastore into an array of the walk's own -/
theorem Go.aastore (W : Wk nw EL n0 Z a0 own nm cd ml ret p l e R s m args below meth c T h xs cells slots) {a y : Addr} {C ad : String} {vs : List Value} {j : Int32} (i : Nat) (d : Dec cd pc .aastore 1 n) (O : OAw Z h a C ad vs) (ha : a ∈ xs) (hj : j = Int32.ofNat i) (hi : i < vs.length) (hlen : vs.length < 2 ^ 31) (I : Ins Z h y C true)
    (k : ∀ T' h', Wk nw EL n0 Z a0 own nm cd ml ret p l e R s m args below meth c T' h' xs cells slots → Keep h h' [a] → OAw Z h' a C ad (vs.set i (.ref y)) → Go p e below F T' (mkF m n L r)) : Go p e below F T (mkF m pc L (.ref y :: .int j :: .ref a :: r)) := by
  obtain ⟨vm0, k0, locs, X, eT, hS, hk, hn, hZ, ho, hE, hC, hF, hO, hxs, hx, hby, rest⟩ := W
  obtain ⟨d, rfl⟩ := d
  subst hj
  obtain ⟨cl, A1, A2, S1, hv, OV⟩ := id O
  have hin : ¬ (Int32.ofNat i < 0 ∨ cl.slots.size ≤ (Int32.ofNat i).toNatClampNeg) := by
    rw [clamp_nat (by omega), S1]
    rintro (q | q)
    · rw [Int32.lt_iff_toInt_lt, toInt_nat (by omega)] at q; have e0 : (0 : Int32).toInt = 0 := rfl; omega
    · simp at q; omega
  obtain ⟨T', h', X', e', Wr', st⟩ := stR X hx hZ eT A1 hin rfl (Sto.of A1 OV I) (g := mkF m pc L (.ref y :: .int (Int32.ofNat i) :: .ref a :: r)) rfl rfl (hb hby d)
  have q := hxs a ha
  have C1 := CHr.wr Wr' q.2.2 hC.1
  have sz : h'.size = h.size := Wr'.size
  have A3 : OAw Z h' a C ad (vs.set i (.ref y)) := by
    refine ⟨_, A1.same Wr', A2.wr Wr', ?_, fun v hm => (List.mem_or_eq_of_mem_set hm).elim (hv v) (fun z => by rw [z]; rfl), OV⟩
    show (cl.slots.setIfInBounds _ _) = _
    rw [clamp_nat (by omega), S1]; simp
  exact Go.st st (k T' h' ⟨vm0, k0, _, X', e', hS, by rw [sz]; exact hk, hn, hZ, ho, hE, hC.trans C1, Fr.snoc X' hF q.1, hO.wr Wr' q.1, fun x hm => ⟨(hxs x hm).1, by rw [sz]; exact (hxs x hm).2.1, C1.safe (hxs x hm).2.1 (hxs x hm).2.2⟩, hx, hby, rest⟩ (Keep.of_wr Wr') A3)
/-- invokeinterface, a value back -/
theorem Go.invf1 (W : Wk nw EL n0 Z a0 own nm cd ml ret p l e R s m args below meth c T h xs cells slots) {y z : MethodName} {C : String} {ix cnt wt kc ks cells' slots' : Nat} {argsL rest st0 : List Value} {b : Addr} {Q : Value → Heap → Prop} {ps : List FieldType} {pr : Option FieldType} (hK : Call nw EL n0 Z xs l R p e below s args z 5 wt (.ref b :: argsL).toArray h kc ks (RV Q)) (d : Dec cd pc (.invokeinterface ix cnt) 5 n)
    (w1 : (Cond.methodLink own ix y).before a0 Z = true) (w2 : (Cond.declares y).before a0 Z = true) (w3 : (Cond.interfaceMethod y.cls y.cls y.name y.desc).before a0 Z = true) (w4 : (Cond.selects C y z).before a0 Z = true) (w5 : (Cond.instanceMethod z).before a0 Z = true) (w6 : (Cond.publicMethod z).before a0 Z = true) (w7 : (Cond.unhidden C y.name y.desc).before a0 Z = true) (w8 : (Cond.castable C y.cls).before a0 Z = true) (hy : y.cls ≠ "java/lang/invoke/MethodHandle" ∧ y.cls ≠ "java/lang/invoke/VarHandle") (E : Exa Z h b C)
    (hpd : parseMethodDescriptor y.desc = some ⟨ps, pr⟩) (hlen : argsL.length = ps.length) (hsz : L.size = ml) (hst : st0 = argsL.reverse ++ .ref b :: rest) (hw : (rest.map fun v => v.category).sum ≤ wt) (hc : cells + kc = cells') (hs : slots + ks = slots') (hc' : cells' ≤ R.cells) (hs' : slots' ≤ R.slots)
    (k : ∀ T' h' v, Wk nw EL n0 Z a0 own nm cd ml ret p l e R s m args below meth c T' h' xs cells' slots' → h.size ≤ h'.size → Q v h' → Go p e below F T' (mkF m n L (v :: rest))) : Go p e below F T (mkF m pc L st0) := by
  obtain ⟨vm0, k0, locs, X, eT, hS, hk, hn, hZ, ho, hE, hC, hF, hO, hxs, hx, hby, hml, rst⟩ := W
  obtain ⟨d, rfl⟩ := d
  subst hc hs hst
  obtain ⟨cq, kq, qa, qb, qc⟩ := isOf (s := s.setVm vm0) hZ eT E
  obtain ⟨v, vm₁, B, hW1, X', hS2, hg, ⟨Lc, hq, r1, r2, r3, hF', hO', hC', hn'⟩, st⟩ := X.interfaceBackS hx ho (mv hZ w1) (mv hZ w2) (mv hZ w3 (by simp [Cond.onTables, Cond.keepsFace, Cond.keeps, Cond.steady, Cond.faceAtom, hy.1, hy.2])) (mv hZ w4) (mv hZ w5) (mv hZ w6) (mv hZ w7) (mv hZ w8) hy (hK vm0 hZ hC.1 hO hxs) qa qb qc (g := mkF m pc L (argsL.reverse ++ .ref b :: rest)) rfl (hsz.trans hml.symm) (Steps.refl _) (argsL := argsL) (rest := rest) (lenOf hpd hlen) rfl (by show 2 * 0 + _ ≤ _; omega) (hb hby d) (fun _ _ => ⟨rfl, eT, hc', hs'⟩)
  obtain ⟨w, rfl, hq⟩ := hq
  exact Go.run st (k B.U B.U.heap w (Wk.after X eT hS hk hn hZ ho hE hC hF hO hxs ⟨hx, hby, hml, rst⟩ X' hS2 hg r1 r2 r3 hF' hO' hC' hn') (eT ▸ hg) hq)
/-- an array of references whose length is no constant's length is no constant's array -/
theorem Wk.oar (W : Wk nw EL n0 Z a0 own nm cd ml ret p l e R s m args below meth c T h xs cells slots) {b : Addr} {C ad : String} {vs : List Value} (A : OAw Z h b C ad vs) (hx : n0 ≤ b)
    (hT : ∀ p ∈ EL, ∃ text : String, (Cond.stringLink p.1 p.2 text).before a0 Z = true ∧ (∀ c ∈ text.toList, c.toNat < 256) ∧ text.toList.length ≠ vs.length) : Wk nw EL n0 Z a0 own nm cd ml ret p l e R s m args below meth c T h (b :: xs) cells slots := by
  obtain ⟨vm0, k0, locs, X, eT, hS, hk, hn, hZ, ho, hE, hC, hF, hO, hxs, rest⟩ := W
  refine ⟨vm0, k0, locs, X, eT, hS, hk, hn, hZ, ho, hE, hC, hF, hO, fun y q => ?_, rest⟩
  rcases List.mem_cons.mp q with rfl | q
  · refine ⟨hx, A.lt, fun B => ?_⟩
    obtain ⟨cl, A1, -, S0, -⟩ := A
    have S1 : cl.slots.size = vs.length := by rw [S0]; simp
    obtain ⟨p, hp, u, a, hb, q, -, F, e | e⟩ := B
    · have h1 := F.ha
      rw [← e] at h1
      obtain ⟨A0, ⟨-, kA, hkA, compA, hkindA⟩, -⟩ := A1
      obtain ⟨kA', hkA', ekA⟩ := hZ.alike.2.2 _ _ hkA
      have ec : q.sC = cl := Option.some.inj ((show h[y]? = some q.sC from h1).symm.trans A0)
      obtain ⟨cS, ⟨-, -, e2⟩, ⟨kS, g1, g2, -⟩, -⟩ := F
      rw [← e2, ec] at g1
      have ek : kS = kA' := Option.some.inj ((show vm0.classes[cl.cls]? = some kS from g1).symm.trans hkA')
      rw [ek, ekA, hkindA] at g2
      cases g2
    · have h1 := F.hd
      rw [← e] at h1
      have ec : q.SA = cl := Option.some.inj ((show h[y]? = some q.SA from h1).symm.trans A1.1)
      obtain ⟨cS, -, -, -, hsl⟩ := F
      rw [ec] at hsl
      obtain ⟨text, w, ht, hne⟩ := hT p hp
      obtain ⟨c1, k1, cf, i, hc1, hk1, hcf, hpool, hu, -⟩ := hb
      have w2 : (Cond.stringLink p.1 p.2 text).before a0 (Wst Z vm0 h) = true := mvS (s := { Z with heap := h }) hZ w
      obtain ⟨k2, cf2, i2, u2, hk2, hcf2, hp2, hu2, -, htext, -⟩ := Cond.stringLink_spec (s := Wst Z vm0 h) hc1 w2
      cases hk1.symm.trans hk2
      cases hcf.symm.trans hcf2
      cases hpool.symm.trans hp2
      cases hu.symm.trans hu2
      have hlat := Jvm.ClassFile.lat_of_text htext ht
      have hs2 : (stringBytes u).size = u.size := by simp [stringBytes, hlat]
      have hsz := Jvm.ClassFile.app_eq u.toList "" text (fun z hz => by have := Array.all_eq_true_iff_forall_mem.mp hlat z (Array.mem_toList_iff.mp hz); exact of_decide_eq_true this) htext
      have hl2 : text.toList.length = u.size := by rw [hsz]; simp
      rw [hsl, hs2] at S1
      exact hne (hl2.trans S1)
  · exact hxs y q
end Lst
section Apart
variable {Z : State} {h h' : Heap} {a0 : Array Value}
theorem Exa.ne_arr {a b : Addr} {C : String} {kk : Nat} {ty : FieldType} {cl : Cell} (w : (Cond.instantiable C kk).before a0 Z = true) (E : Exa Z h a C) (A : Arr Z h b cl ty) : a ≠ b := by
  rintro rfl
  obtain ⟨cell, k, h1, h2, h3, -, -⟩ := E
  obtain ⟨c0, k0, g1, g2, g3, -⟩ := Cond.instantiable_spec w
  obtain ⟨A0, ⟨-, kA, hkA, comp, hkind⟩, -⟩ := A
  have e1 : cell = cl := Option.some.inj (h1.symm.trans A0)
  have e2 : c0 = cell.cls := Option.some.inj (g1.symm.trans h2)
  subst e1
  rw [e2] at g2
  have e3 : k0 = kA := Option.some.inj (g2.symm.trans hkA)
  rw [e3, hkind] at g3
  cases g3
theorem Arr.ne_ty {a b : Addr} {ty ty' : FieldType} {cl cl' : Cell} (A : Arr Z h a cl ty) (B : Arr Z h b cl' ty') (hne : ty ≠ ty') : a ≠ b := by
  rintro rfl
  obtain ⟨A0, ⟨-, kA, hkA, comp, hkind⟩, -⟩ := A
  obtain ⟨B0, ⟨-, kB, hkB, comp', hkind'⟩, -⟩ := B
  have e1 : cl = cl' := Option.some.inj (A0.symm.trans B0)
  subst e1
  have e3 : kA = kB := Option.some.inj (hkA.symm.trans hkB)
  rw [e3, hkind'] at hkind
  cases hkind
  exact hne rfl
theorem Exa.ne_name {a b : Addr} {C D : String} (E : Exa Z h a C) (E' : Exa Z h b D) (hne : C ≠ D) : a ≠ b := by
  rintro rfl
  obtain ⟨cell, k, h1, h2, h3, -, -⟩ := E
  obtain ⟨cell', k', g1, g2, g3, -, -⟩ := E'
  have e1 : cell = cell' := Option.some.inj (h1.symm.trans g1)
  subst e1
  exact ids_ne h2 g2 hne rfl
theorem Str.keepL {r : Addr} {cs : List Int32} {ws : List Addr} (S : Str Z h r cs) (K : Keep h h' ws) (hr : r ∉ ws) (hb : ∀ b cl, Arr Z h b cl .byte → b ∉ ws) : Str Z h' r cs := by
  obtain ⟨h1, h2, ⟨b, k, h3, h4⟩, r⟩ := S
  have hbw : b ∉ ws := by obtain ⟨cl, A, -⟩ := id h4; exact hb b cl A
  exact ⟨h1.keep K, h2.keep K hr, ⟨b, k, h3.keep K hr, h4.keep K hbw⟩, r⟩
/-- a String outlives what is written into a list and its array -/
theorem Str.keep2 {r a d : Addr} {cs : List Int32} {C D ad : String} {kk : Nat} {vs : List Value} (wS : (Cond.instantiable "java/lang/String" 4).before a0 Z = true) (wA : (Cond.instantiable C kk).before a0 Z = true) (S : Str Z h r cs) (K : Keep h h' [a, d]) (E : Exa Z h a C) (hC : "java/lang/String" ≠ C) (O : OAw Z h d D ad vs) : Str Z h' r cs := by
  obtain ⟨cd, Ad, -⟩ := id O
  refine S.keepL K (fun q => ?_) (fun b cl A q => ?_)
  · rcases List.mem_cons.mp q with q | q
    · exact Exa.ne_name S.1 E hC q
    · exact Exa.ne_arr wS S.1 Ad (List.mem_singleton.mp q)
  · rcases List.mem_cons.mp q with q | q
    · exact Exa.ne_arr wA E A q.symm
    · exact Arr.ne_ty A Ad (by intro z; cases z) (List.mem_singleton.mp q)
theorem Str.keep1 {r a : Addr} {cs : List Int32} {C : String} {kk : Nat} (wA : (Cond.instantiable C kk).before a0 Z = true) (S : Str Z h r cs) (K : Keep h h' [a]) (E : Exa Z h a C) (hC : "java/lang/String" ≠ C) : Str Z h' r cs :=
  S.keepL K (fun q => Exa.ne_name S.1 E hC (List.mem_singleton.mp q)) (fun b cl A q => Exa.ne_arr wA E A (List.mem_singleton.mp q).symm)
end Apart
end Jvm.OwK
/- laws to paste: Road.backV, Road.lenW, Road.eqW, Road.codOf (cut by pick.py; bodies as the Statement names them) -/
namespace Jvm.Pilot.@@N@@
namespace StrChars
open Jvm Sem ClassFile Op Lib Jvm.Stand Jvm.Free.XT Jvm.Free.ALB Jvm.Free.JM Jvm.Free
open Jvm.Lib.Cold (StaticIs)
/-- a char array whose places are chars -/
def Ch (a : Addr) (A : Cell) (U : State) : Prop := Arr .char a A U ∧ Typed .char A
theorem Ch.mv {a : Addr} {A : Cell} {U U' : State} (h : Ch a A U) (hal : U.vm.Alike U'.vm) (hh : U'.heap = U.heap) : Ch a A U' := ⟨h.1.mv hal hh, h.2⟩
theorem Ch.keep {a : Addr} {A : Cell} {U U' : State} (h : Ch a A U) (hal : U.vm.Alike U'.vm) (hk : U'.heap[a]? = some A) : Ch a A U' := ⟨h.1.keep hal hk, h.2⟩
/-- what place i of a char[]'s cell holds -/
def cv (A : Cell) (i : Nat) : Int32 := match A.slots[i]? with | some (.int x) => x | _ => 0
theorem Ch.get {a : Addr} {A : Cell} {U : State} (h : Ch a A U) {i : Nat} (hi : i < A.slots.size) : A.slots[i]? = some (.int (cv A i)) := by
  have e := Array.getElem?_eq_getElem hi
  have f := h.2 i _ e
  unfold cv; rw [e]
  generalize A.slots[i] = v at f
  cases v <;> simp [fits] at f ⊢
/-- the byte that i2b leaves of a char -/
def lo8 (x : Int32) : Int32 := x.toInt8.toInt32
theorem fits_lo8 (y : Int32) : fits .byte (.int (lo8 y)) = true := by
  have h1 := y.toInt8.le_toInt
  have h2 := y.toInt8.toInt_lt
  simp only [lo8, fits, Bool.and_eq_true, decide_eq_true_eq, Int32.le_iff_toInt_le, Int8.toInt_toInt32, show (-128 : Int32).toInt = -128 from by decide, show (127 : Int32).toInt = 127 from by decide]
  omega
/-- A' is A but that each place j of lo .. hi - 1 holds f j -/
def Laid (A A' : Cell) (lo hi : Nat) (f : Nat → Value) : Prop := A'.cls = A.cls ∧ A'.vm = A.vm ∧ A'.slots.size = A.slots.size ∧ ∀ i, A'.slots[i]? = if lo ≤ i ∧ i < hi then some (f i) else A.slots[i]?
theorem Laid.zero (A : Cell) (lo : Nat) (f : Nat → Value) : Laid A A lo (lo + 0) f := ⟨rfl, rfl, rfl, fun i => by rw [if_neg (by omega)]⟩
theorem Laid.step {A Ak : Cell} {lo k : Nat} {f : Nat → Value} {v : Value} (h : Laid A Ak lo k f) (hlo : lo ≤ k) (hk : k < Ak.slots.size) (hv : v = f k) : Laid A (Ak.setSlot k v) lo (k + 1) f := by
  refine ⟨h.1, h.2.1, by simpa [Cell.setSlot] using h.2.2.1, fun i => ?_⟩
  by_cases e : k = i
  · subst e; rw [Cell.slots_setSlot_self v hk, if_pos (by omega), hv]
  · rw [Cell.slots_setSlot_ne v e, h.2.2.2 i]
    by_cases q : lo ≤ i ∧ i < k
    · rw [if_pos q, if_pos (by omega)]
    · rw [if_neg q, if_neg (by omega)]
def U16 : String := "java/lang/StringUTF16"
namespace Cmp5
def yN : MethodName := ⟨"java/lang/StringUTF16", "compress", "([CI[BII)I"⟩
abbrev yB : ByteArray := jdk_52_method_21_code
theorem d0 : decode yB 0 = .ok (.iconst 0, 1) := by decide +kernel
theorem d1 : decode yB 1 = .ok (.istore 5, 2) := by decide +kernel
theorem d3 : decode yB 3 = .ok (.iload 5, 2) := by decide +kernel
theorem d5 : decode yB 5 = .ok (.iload 4, 2) := by decide +kernel
theorem d7 : decode yB 7 = .ok (.if_icmp (.ge) 37, 3) := by decide +kernel
theorem d10 : decode yB 10 = .ok (.aload_n 0, 1) := by decide +kernel
theorem d11 : decode yB 11 = .ok (.iload_n 1, 1) := by decide +kernel
theorem d12 : decode yB 12 = .ok (.caload, 1) := by decide +kernel
theorem d13 : decode yB 13 = .ok (.istore 6, 2) := by decide +kernel
theorem d15 : decode yB 15 = .ok (.iload 6, 2) := by decide +kernel
theorem d17 : decode yB 17 = .ok (.sipush 255, 3) := by decide +kernel
theorem d20 : decode yB 20 = .ok (.if_icmp (.le) 6, 3) := by decide +kernel
theorem d26 : decode yB 26 = .ok (.aload_n 2, 1) := by decide +kernel
theorem d27 : decode yB 27 = .ok (.iload_n 3, 1) := by decide +kernel
theorem d28 : decode yB 28 = .ok (.iload 6, 2) := by decide +kernel
theorem d30 : decode yB 30 = .ok (.i2b, 1) := by decide +kernel
theorem d31 : decode yB 31 = .ok (.bastore, 1) := by decide +kernel
theorem d32 : decode yB 32 = .ok (.iinc 1 1, 3) := by decide +kernel
theorem d35 : decode yB 35 = .ok (.iinc 3 1, 3) := by decide +kernel
theorem d38 : decode yB 38 = .ok (.iinc 5 1, 3) := by decide +kernel
theorem d41 : decode yB 41 = .ok (.goto (-38), 3) := by decide +kernel
theorem d44 : decode yB 44 = .ok (.iload 4, 2) := by decide +kernel
theorem d46 : decode yB 46 = .ok (.ireturn, 1) := by decide +kernel
def site : List Cond := []
def tab : Cond := tabOf yN yB 7 (some .int) site
def P (b : Addr) (A : Cell) (d : Addr) (B : Cell) (o q len : Nat) (args : Array Value) (s : State) : Prop := args = #[.ref b, .int (Int32.ofNat o), .ref d, .int (Int32.ofNat q), .int (Int32.ofNat len)] ∧ Ch b A s ∧ Arr .byte d B s ∧ b ≠ d ∧ o + len ≤ A.slots.size ∧ q + len ≤ B.slots.size ∧ ∀ i, i < len → ¬ 255 < cv A (o + i)
def E (b : Addr) (A : Cell) (d : Addr) (B : Cell) (o q len : Nat) (r : Option Value) (s u : State) : Prop := r = some (.int (Int32.ofNat len)) ∧ ∃ B', Put d B' s u ∧ Laid B B' q (q + len) (fun j => Value.int (lo8 (cv A (o + (j - q)))))
/-- no char of the range above 255: len; the places written hold each char's low byte -/
theorem law (l : Launch) (b : Addr) (A : Cell) (d : Addr) (B : Cell) (o q len : Nat) : Law l yN 5 5 0 0 yB 7 (some .int) site (P b A d B o q len) (E b A d B o q len) (copyLocs d q len) 0 0 := by
  refine Law.of_walk (plainFor_of_name (by decide +kernel)) (by decide +kernel) (by decide +kernel) (by decide) (fun _ _ h => by rw [h.1]; rfl) (fun _ U U' hal hh h => ⟨h.1, h.2.1.mv hal hh, h.2.2.1.mv hal hh, h.2.2.2⟩) (fun r U U' V V' h1 hal h2 h => ⟨h.1, h.2.elim fun B' q => ⟨B', q.1.mv h1 h2, q.2⟩⟩) ?_
  intro p e s m args below meth c s₁ X0 hexec hbytes hml hret hlk hnm hown hh0 W hP
  obtain ⟨rfl, hA, hB, hne, l1, l2, hp⟩ := hP
  have c1 : Steps p.tables e below (s₁.setTop (entryFrame m #[.ref b, .int (Int32.ofNat o), .ref d, .int (Int32.ofNat q), .int (Int32.ofNat len)] 7)) (s₁.setTop (mkF m 0 #[.val (.ref b), .val (.int (Int32.ofNat o)), .val (.ref d), .val (.int (Int32.ofNat q)), .val (.int (Int32.ofNat len)), .unset, .unset] [])) := entry rfl
  have hA0 := hA.1.mv X0.warmed.alike hh0
  have hB0 := hB.mv X0.warmed.alike hh0
  have a31 := hA.1.2.2.2
  have c2 : Steps p.tables e below (s₁.setTop (entryFrame m #[.ref b, .int (Int32.ofNat o), .ref d, .int (Int32.ofNat q), .int (Int32.ofNat len)] 7)) (s₁.setTop (mkF m 3 #[.val (.ref b), .val (.int (Int32.ofNat o)), .val (.ref d), .val (.int (Int32.ofNat q)), .val (.int (Int32.ofNat len)), .val (.int 0), .unset] [])) := c1.trans (by
    refine iconstV X0.here hexec rfl 0 (hb hbytes d0) (by decide) ?_
    refine XS.istore X0.here hexec rfl (hb hbytes d1) rfl rfl ?_
    exact Steps.refl _)
  have loop : ∀ (r i : Nat), i + r = len → ∀ (z : Slot), (z = .unset ∨ ∃ w, z = .val w ∧ w.category = 1) → ∀ (Tl : State) (Bk : Cell), Stand p l e { frames := 0, locals := 0, cells := 0, slots := 0 } s m #[.ref b, .int (Int32.ofNat o), .ref d, .int (Int32.ofNat q), .int (Int32.ofNat len)] below meth c Tl ([] ++ copyLocs d q i) 0 0 → Put d Bk s₁ Tl → Laid B Bk q (q + i) (fun j => Value.int (lo8 (cv A (o + (j - q))))) →
      Steps p.tables e below (s₁.setTop (entryFrame m #[.ref b, .int (Int32.ofNat o), .ref d, .int (Int32.ofNat q), .int (Int32.ofNat len)] 7)) (Tl.setTop (mkF m 3 #[.val (.ref b), .val (.int (Int32.ofNat (o + i))), .val (.ref d), .val (.int (Int32.ofNat (q + i))), .val (.int (Int32.ofNat len)), .val (.int (Int32.ofNat i)), z] [])) → ∃ (T' : State) (B' : Cell) (z' : Slot), Stand p l e { frames := 0, locals := 0, cells := 0, slots := 0 } s m #[.ref b, .int (Int32.ofNat o), .ref d, .int (Int32.ofNat q), .int (Int32.ofNat len)] below meth c T' ([] ++ copyLocs d q len) 0 0 ∧ Put d B' s₁ T' ∧ Laid B B' q (q + len) (fun j => Value.int (lo8 (cv A (o + (j - q))))) ∧
      Steps p.tables e below (s₁.setTop (entryFrame m #[.ref b, .int (Int32.ofNat o), .ref d, .int (Int32.ofNat q), .int (Int32.ofNat len)] 7)) (T'.setTop (mkF m 3 #[.val (.ref b), .val (.int (Int32.ofNat (o + len))), .val (.ref d), .val (.int (Int32.ofNat (q + len))), .val (.int (Int32.ofNat len)), .val (.int (Int32.ofNat len)), z'] [])) := by
    intro r
    induction r with
    | zero =>
      intro i hi z hz Tl Bk Xl pl fl cl
      have hil : i = len := by omega
      rw [hil] at Xl fl cl
      exact ⟨Tl, Bk, z, Xl, pl, fl, cl⟩
    | succ r ih =>
      intro i hi z hz Tl Bk Xl pl fl cl
      have all := X0.warmed.alike.symm.trans Xl.warmed.alike
      have hAl := hA0.keep all (pl.other hne hA0.1)
      have hBk := hB0.like all pl.1 fl.1 fl.2.1 fl.2.2.1
      have hlt : q + i < Bk.slots.size := by rw [fl.2.2.1]; omega
      have c3 : Steps p.tables e below (s₁.setTop (entryFrame m #[.ref b, .int (Int32.ofNat o), .ref d, .int (Int32.ofNat q), .int (Int32.ofNat len)] 7)) (Tl.setTop (mkF m 12 #[.val (.ref b), .val (.int (Int32.ofNat (o + i))), .val (.ref d), .val (.int (Int32.ofNat (q + i))), .val (.int (Int32.ofNat len)), .val (.int (Int32.ofNat i)), z] [.int (Int32.ofNat (o + i)), .ref b])) := cl.trans (by
        refine XS.iload Xl.here hexec rfl (hb hbytes d3) rfl ?_
        refine XS.iload Xl.here hexec rfl (hb hbytes d5) rfl ?_
        refine XS.icmpNo Xl.here hexec rfl (hb hbytes d7) rfl (ii_ge_f (lt32 (by omega) (by omega))) ?_
        refine XS.aloadN Xl.here hexec rfl (hb hbytes d10) rfl rfl ?_
        refine XS.iloadN Xl.here hexec rfl (hb hbytes d11) rfl ?_
        exact Steps.refl _)
      have c4 : Steps p.tables e below (s₁.setTop (entryFrame m #[.ref b, .int (Int32.ofNat o), .ref d, .int (Int32.ofNat q), .int (Int32.ofNat len)] 7)) (Tl.setTop (mkF m 13 #[.val (.ref b), .val (.int (Int32.ofNat (o + i))), .val (.ref d), .val (.int (Int32.ofNat (q + i))), .val (.int (Int32.ofNat len)), .val (.int (Int32.ofNat i)), z] [.int (cv A (o + i))])) := c3.trans (by
        refine Xl.aget hexec hAl rfl (hA.get (i := o + i) (by omega)) rfl rfl (hb hbytes d12) ?_
        exact Steps.refl _)
      have c5 : Steps p.tables e below (s₁.setTop (entryFrame m #[.ref b, .int (Int32.ofNat o), .ref d, .int (Int32.ofNat q), .int (Int32.ofNat len)] 7)) (Tl.setTop (mkF m 15 #[.val (.ref b), .val (.int (Int32.ofNat (o + i))), .val (.ref d), .val (.int (Int32.ofNat (q + i))), .val (.int (Int32.ofNat len)), .val (.int (Int32.ofNat i)), .val (.int (cv A (o + i)))] [])) := c4.trans (by
        refine XS.istoreS Xl.here hexec rfl (hb hbytes d13) rfl rfl hz ?_
        exact Steps.refl _)
      have c6 : Steps p.tables e below (s₁.setTop (entryFrame m #[.ref b, .int (Int32.ofNat o), .ref d, .int (Int32.ofNat q), .int (Int32.ofNat len)] 7)) (Tl.setTop (mkF m 31 #[.val (.ref b), .val (.int (Int32.ofNat (o + i))), .val (.ref d), .val (.int (Int32.ofNat (q + i))), .val (.int (Int32.ofNat len)), .val (.int (Int32.ofNat i)), .val (.int (cv A (o + i)))] [.int (lo8 (cv A (o + i))), .int (Int32.ofNat (q + i)), .ref d])) := c5.trans (by
        refine XS.iload Xl.here hexec rfl (hb hbytes d15) rfl ?_
        refine sipushV Xl.here hexec rfl 255 (hb hbytes d17) (by decide) ?_
        refine XS.icmpYes Xl.here hexec rfl (pc0 := 20) rfl (hb hbytes d20) rfl (ii_le_t (hp i (by omega))) (by decide) rfl ?_
        refine XS.aloadN Xl.here hexec rfl (hb hbytes d26) rfl rfl ?_
        refine XS.iloadN Xl.here hexec rfl (hb hbytes d27) rfl ?_
        refine XS.iload Xl.here hexec rfl (hb hbytes d28) rfl ?_
        refine i2b Xl.here hexec rfl (hb hbytes d30) rfl ?_
        exact Steps.refl _)
      obtain ⟨T7, X7, p7, st7⟩ := Xl.aput hexec hBk rfl hlt rfl (fits_lo8 (cv A (o + i))) (g := (mkF m 31 #[.val (.ref b), .val (.int (Int32.ofNat (o + i))), .val (.ref d), .val (.int (Int32.ofNat (q + i))), .val (.int (Int32.ofNat len)), .val (.int (Int32.ofNat i)), .val (.int (cv A (o + i)))] [.int (lo8 (cv A (o + i))), .int (Int32.ofNat (q + i)), .ref d])) rfl (rest := []) rfl (hb hbytes d31)
      have c8 : Steps p.tables e below (s₁.setTop (entryFrame m #[.ref b, .int (Int32.ofNat o), .ref d, .int (Int32.ofNat q), .int (Int32.ofNat len)] 7)) (T7.setTop (mkF m 32 #[.val (.ref b), .val (.int (Int32.ofNat (o + i))), .val (.ref d), .val (.int (Int32.ofNat (q + i))), .val (.int (Int32.ofNat len)), .val (.int (Int32.ofNat i)), .val (.int (cv A (o + i)))] [])) := c6.trans (st7 _ (Steps.refl _))
      have c9 : Steps p.tables e below (s₁.setTop (entryFrame m #[.ref b, .int (Int32.ofNat o), .ref d, .int (Int32.ofNat q), .int (Int32.ofNat len)] 7)) (T7.setTop (mkF m 3 #[.val (.ref b), .val (.int (Int32.ofNat (o + i) + 1)), .val (.ref d), .val (.int (Int32.ofNat (q + i) + 1)), .val (.int (Int32.ofNat len)), .val (.int (Int32.ofNat i + 1)), .val (.int (cv A (o + i)))] [])) := c8.trans (by
        refine iincV X7.here hexec rfl 1 (hb hbytes d32) (by decide) rfl rfl ?_
        refine iincV X7.here hexec rfl 1 (hb hbytes d35) (by decide) rfl rfl ?_
        refine iincV X7.here hexec rfl 1 (hb hbytes d38) (by decide) rfl rfl ?_
        refine XS.goto X7.here hexec rfl (pc0 := 41) rfl (hb hbytes d41) (by decide) rfl ?_
        exact Steps.refl _)
      have c10 : Steps p.tables e below (s₁.setTop (entryFrame m #[.ref b, .int (Int32.ofNat o), .ref d, .int (Int32.ofNat q), .int (Int32.ofNat len)] 7)) (T7.setTop (mkF m 3 #[.val (.ref b), .val (.int (Int32.ofNat (o + (i + 1)))), .val (.ref d), .val (.int (Int32.ofNat (q + (i + 1)))), .val (.int (Int32.ofNat len)), .val (.int (Int32.ofNat (i + 1))), .val (.int (cv A (o + i)))] [])) := by
        have := c9
        rw [succ32, succ32, succ32] at this
        exact this
      exact ih (i + 1) (by omega) _ (Or.inr ⟨_, rfl, rfl⟩) T7 _ (by rw [copyLocs_step, ← List.append_assoc]; exact X7) (pl.trans p7) (fl.step (by omega) hlt (by simp)) c10
  obtain ⟨T9, B9, z9, X9, p9, f9, g9⟩ := loop len 0 (by omega) .unset (Or.inl rfl) s₁ B (by simpa [copyLocs] using X0) ⟨hB0.1, fun _ _ => rfl, rfl⟩ (Laid.zero _ _ _) c2
  have c11 : Steps p.tables e below (s₁.setTop (entryFrame m #[.ref b, .int (Int32.ofNat o), .ref d, .int (Int32.ofNat q), .int (Int32.ofNat len)] 7)) (T9.setTop (mkF m 46 #[.val (.ref b), .val (.int (Int32.ofNat (o + len))), .val (.ref d), .val (.int (Int32.ofNat (q + len))), .val (.int (Int32.ofNat len)), .val (.int (Int32.ofNat len)), z9] [.int (Int32.ofNat len)])) := g9.trans (by
    refine XS.iload X9.here hexec rfl (hb hbytes d3) rfl ?_
    refine XS.iload X9.here hexec rfl (hb hbytes d5) rfl ?_
    refine XS.icmpYes X9.here hexec rfl (pc0 := 7) rfl (hb hbytes d7) rfl (ii_ge_t (nlt32 (by omega) (Nat.le_refl _))) (by decide) rfl ?_
    refine XS.iload X9.here hexec rfl (hb hbytes d44) rfl ?_
    exact Steps.refl _)
  exact ⟨T9, some (.int (Int32.ofNat len)), _, _, _, X9, by simp, rfl, rfl, (fun h => by cases h), ⟨rfl, B9, p9.from hh0, f9⟩, fun fs hl => c11.trans (X9.ireturnOut hexec hret rfl (Or.inl rfl) (hb hbytes d46) hl)⟩
end Cmp5
namespace Cmp3
def yN : MethodName := ⟨"java/lang/StringUTF16", "compress", "([CII)[B"⟩
abbrev yB : ByteArray := jdk_52_method_16_code
theorem d0 : decode yB 0 = .ok (.iload_n 2, 1) := by decide +kernel
theorem d1 : decode yB 1 = .ok (.newarray .byte, 2) := by decide +kernel
theorem d3 : decode yB 3 = .ok (.astore_n 3, 1) := by decide +kernel
theorem d4 : decode yB 4 = .ok (.aload_n 0, 1) := by decide +kernel
theorem d5 : decode yB 5 = .ok (.iload_n 1, 1) := by decide +kernel
theorem d6 : decode yB 6 = .ok (.aload_n 3, 1) := by decide +kernel
theorem d7 : decode yB 7 = .ok (.iconst 0, 1) := by decide +kernel
theorem d8 : decode yB 8 = .ok (.iload_n 2, 1) := by decide +kernel
theorem d9 : decode yB 9 = .ok (.invokestatic 115, 3) := by decide +kernel
theorem d12 : decode yB 12 = .ok (.istore 4, 2) := by decide +kernel
theorem d14 : decode yB 14 = .ok (.iload 4, 2) := by decide +kernel
theorem d16 : decode yB 16 = .ok (.iload_n 2, 1) := by decide +kernel
theorem d17 : decode yB 17 = .ok (.if_icmp (.eq) 40, 3) := by decide +kernel
theorem d57 : decode yB 57 = .ok (.aload_n 3, 1) := by decide +kernel
theorem d58 : decode yB 58 = .ok (.areturn, 1) := by decide +kernel
def site : List Cond := [.arrayClass .byte, Cmp5.tab] ++ staticW U16 115 Cmp5.yN
def tab : Cond := tabOf yN yB 6 (some (.array .byte)) site
def P (b : Addr) (A : Cell) (o len : Nat) (args : Array Value) (s : State) : Prop := args = #[.ref b, .int (Int32.ofNat o), .int (Int32.ofNat len)] ∧ Ch b A s ∧ o + len ≤ A.slots.size ∧ len ≤ 536870912 ∧ ∀ i, i < len → ¬ 255 < cv A (o + i)
def E (b : Addr) (A : Cell) (o len : Nat) (r : Option Value) (s u : State) : Prop := NewArr .byte "[B" len (fun j => .int (lo8 (cv A (o + j)))) r s u ∧ u.heap.size = s.heap.size + 1
/-- no char of the range above 255: a new byte[] of their low bytes -/
theorem law (l : Launch) (b : Addr) (A : Cell) (o len : Nat) : Law l yN 3 3 1 18 yB 6 (some (.array .byte)) site (P b A o len) (E b A o len) [] 1 len := by
  refine Law.of_walk (plainFor_of_name (by decide +kernel)) (by decide +kernel) (by decide +kernel) (by decide) (fun _ _ h => by rw [h.1]; rfl) (fun _ U U' hal hh h => ⟨h.1, h.2.1.mv hal hh, h.2.2⟩) (fun r U U' V V' h1 hal h2 h => ⟨NewArr.mv r U U' V V' h1 hal h2 h.1, by rw [h1, h2]; exact h.2⟩) ?_
  intro p e s m args below meth c s₁ X0 hexec hbytes hml hret hlk hnm hown hh0 W hP
  obtain ⟨rfl, hA, l1, l2, hp⟩ := hP
  have a31 := hA.1.2.2.2
  have c1 : Steps p.tables e below (s₁.setTop (entryFrame m #[.ref b, .int (Int32.ofNat o), .int (Int32.ofNat len)] 6)) (s₁.setTop (mkF m 0 #[.val (.ref b), .val (.int (Int32.ofNat o)), .val (.int (Int32.ofNat len)), .unset, .unset, .unset] [])) := entry rfl
  have c2 : Steps p.tables e below (s₁.setTop (entryFrame m #[.ref b, .int (Int32.ofNat o), .int (Int32.ofNat len)] 6)) (s₁.setTop (mkF m 1 #[.val (.ref b), .val (.int (Int32.ofNat o)), .val (.int (Int32.ofNat len)), .unset, .unset, .unset] [.int (Int32.ofNat len)])) := c1.trans (by
    refine XS.iloadN X0.here hexec rfl (hb hbytes d0) rfl ?_
    exact Steps.refl _)
  obtain ⟨T3, B3, X3, ba3, bs3, bv3, bh3, bf3, st3⟩ := X0.anew hexec (atype := .byte) (wk W (.arrayClass .byte)) rfl (by show len * 1 ≤ _; omega) (by omega) (g := (mkF m 1 #[.val (.ref b), .val (.int (Int32.ofNat o)), .val (.int (Int32.ofNat len)), .unset, .unset, .unset] [.int (Int32.ofNat len)])) rfl (hb hbytes d1) (rest := []) rfl (Nat.le_refl _) (by show 0 + len ≤ len; omega)
  rw [hh0] at ba3 st3
  have kp3 : XT.Kept s T3 := (XT.Kept.of_eq hh0).push bh3
  have hA3 := hA.keep X3.warmed.alike (kp3 _ _ hA.1.1)
  have hne : b ≠ s.heap.size := hA.1.ne
  have c4 : Steps p.tables e below (s₁.setTop (entryFrame m #[.ref b, .int (Int32.ofNat o), .int (Int32.ofNat len)] 6)) (T3.setTop (mkF m 3 #[.val (.ref b), .val (.int (Int32.ofNat o)), .val (.int (Int32.ofNat len)), .unset, .unset, .unset] [.ref s.heap.size])) := c2.trans (st3 _ (Steps.refl _))
  have c5 : Steps p.tables e below (s₁.setTop (entryFrame m #[.ref b, .int (Int32.ofNat o), .int (Int32.ofNat len)] 6)) (T3.setTop (mkF m 9 #[.val (.ref b), .val (.int (Int32.ofNat o)), .val (.int (Int32.ofNat len)), .val (.ref s.heap.size), .unset, .unset] [.int (Int32.ofNat len), .int 0, .ref s.heap.size, .int (Int32.ofNat o), .ref b])) := c4.trans (by
    refine XS.astoreN X3.here hexec rfl (hb hbytes d3) rfl rfl rfl ?_
    refine XS.aloadN X3.here hexec rfl (hb hbytes d4) rfl rfl ?_
    refine XS.iloadN X3.here hexec rfl (hb hbytes d5) rfl ?_
    refine XS.aloadN X3.here hexec rfl (hb hbytes d6) rfl rfl ?_
    refine iconstV X3.here hexec rfl 0 (hb hbytes d7) (by decide) ?_
    refine XS.iloadN X3.here hexec rfl (hb hbytes d8) rfl ?_
    exact Steps.refl _)
  obtain ⟨v6, T6, X6, E6, g6⟩ := X3.callS hexec (Cmp5.law l b A s.heap.size B3 o 0 len) hown (wks W (staticW U16 115 Cmp5.yN)) (wk W Cmp5.tab) (W := 0) (Nat.le_of_ble_eq_true rfl) (Nat.le_of_ble_eq_true rfl) (Nat.le_refl _) (by show 0 + len + 0 ≤ len; omega) (g := (mkF m 9 #[.val (.ref b), .val (.int (Int32.ofNat o)), .val (.int (Int32.ofNat len)), .val (.ref s.heap.size), .unset, .unset] [.int (Int32.ofNat len), .int (Int32.ofNat 0), .ref s.heap.size, .int (Int32.ofNat o), .ref b])) rfl (by rw [hml]; rfl) c5 (argsL := [.ref b, .int (Int32.ofNat o), .ref s.heap.size, .int (Int32.ofNat 0), .int (Int32.ofNat len)]) (rest := []) rfl rfl (by show 2 * 0 + 0 ≤ _; decide) (hb hbytes d9) (⟨rfl, hA3, ba3, hne, l1, by rw [bs3]; simp, hp⟩)
  obtain ⟨rfl, B6, p6, f6⟩ := E6
  have c7 : Steps p.tables e below (s₁.setTop (entryFrame m #[.ref b, .int (Int32.ofNat o), .int (Int32.ofNat len)] 6)) (T6.setTop (mkF m 12 #[.val (.ref b), .val (.int (Int32.ofNat o)), .val (.int (Int32.ofNat len)), .val (.ref s.heap.size), .unset, .unset] [.int (Int32.ofNat len)])) := g6
  have c8 : Steps p.tables e below (s₁.setTop (entryFrame m #[.ref b, .int (Int32.ofNat o), .int (Int32.ofNat len)] 6)) (T6.setTop (mkF m 58 #[.val (.ref b), .val (.int (Int32.ofNat o)), .val (.int (Int32.ofNat len)), .val (.ref s.heap.size), .val (.int (Int32.ofNat len)), .unset] [.ref s.heap.size])) := c7.trans (by
    refine XS.istore X6.here hexec rfl (hb hbytes d12) rfl rfl ?_
    refine XS.iload X6.here hexec rfl (hb hbytes d14) rfl ?_
    refine XS.iloadN X6.here hexec rfl (hb hbytes d16) rfl ?_
    refine XS.icmpYes X6.here hexec rfl (pc0 := 17) rfl (hb hbytes d17) rfl (ii_eq_t rfl) (by decide) rfl ?_
    refine XS.aloadN X6.here hexec rfl (hb hbytes d57) rfl rfl ?_
    exact Steps.refl _)
  have X8 := X6.wide (L' := []) (cells' := 1) (slots' := len) (fun x hx hlt => by
    simp only [List.nil_append, copyLocs, List.mem_map, List.mem_range] at hx
    obtain ⟨i, -, rfl⟩ := hx
    exact absurd hlt (Nat.lt_irrefl _)) (Nat.le_refl _) (by omega)
  exact ⟨T6, some (.ref s.heap.size), _, _, _, X8, rfl, rfl, rfl, (fun h => by cases h), ⟨⟨rfl, B6, ba3.like (X3.warmed.alike.symm.trans X6.warmed.alike) p6.1 f6.1 f6.2.1 f6.2.2.1, f6.2.1.trans bv3, by rw [X6.warmed.alike.findClass, f6.1]; exact bf3, by rw [f6.2.2.1, bs3]; simp, fun j hj => by rw [f6.2.2.2 j, if_pos (by omega)]; rfl, kp3.put p6 (Nat.le_refl _)⟩, by rw [p6.2.2, bh3, hh0]; simp⟩, fun fs hl => c8.trans (X8.areturnOut hexec rfl hret rfl (hb hbytes d58) hl)⟩
end Cmp3
namespace CodL
def yN : MethodName := ⟨"java/lang/StringUTF16", "coderFromArrayLen", "([BI)B"⟩
abbrev yB : ByteArray := jdk_52_method_15_code
theorem d0 : decode yB 0 = .ok (.iload_n 1, 1) := by decide +kernel
theorem d1 : decode yB 1 = .ok (.aload_n 0, 1) := by decide +kernel
theorem d2 : decode yB 2 = .ok (.arraylength, 1) := by decide +kernel
theorem d3 : decode yB 3 = .ok (.isub, 1) := by decide +kernel
theorem d4 : decode yB 4 = .ok (.bipush 31, 2) := by decide +kernel
theorem d6 : decode yB 6 = .ok (.iushr, 1) := by decide +kernel
theorem d7 : decode yB 7 = .ok (.i2b, 1) := by decide +kernel
theorem d8 : decode yB 8 = .ok (.ireturn, 1) := by decide +kernel
def site : List Cond := []
def tab : Cond := tabOf yN yB 2 (some .byte) site
def P (d : Addr) (B : Cell) (args : Array Value) (s : State) : Prop := args = #[.ref d, .int (Int32.ofNat B.slots.size)] ∧ Arr .byte d B s
def E (r : Option Value) (s u : State) : Prop := XT.PureE (some (.int 0)) r s u
/-- an array as long as the number of chars: LATIN1 -/
theorem law (l : Launch) (d : Addr) (B : Cell) : Law l yN 2 2 0 0 yB 2 (some .byte) site (P d B) E [] 0 0 := by
  refine Law.of_walk (plainFor_of_name (by decide +kernel)) (by decide +kernel) (by decide +kernel) (by decide) (fun _ _ h => by rw [h.1]; rfl) (fun _ U U' hal hh h => ⟨h.1, h.2.mv hal hh⟩) (fun r U U' V V' h1 hal h2 h => XT.PureE.mv r U U' V V' h1 hal h2 h) ?_
  intro p e s m args below meth c s₁ X0 hexec hbytes hml hret hlk hnm hown hh0 W hP
  obtain ⟨rfl, hB⟩ := hP
  have hB0 := hB.mv X0.warmed.alike hh0
  have c1 : Steps p.tables e below (s₁.setTop (entryFrame m #[.ref d, .int (Int32.ofNat B.slots.size)] 2)) (s₁.setTop (mkF m 0 #[.val (.ref d), .val (.int (Int32.ofNat B.slots.size))] [])) := entry rfl
  have c2 : Steps p.tables e below (s₁.setTop (entryFrame m #[.ref d, .int (Int32.ofNat B.slots.size)] 2)) (s₁.setTop (mkF m 2 #[.val (.ref d), .val (.int (Int32.ofNat B.slots.size))] [.ref d, .int (Int32.ofNat B.slots.size)])) := c1.trans (by
    refine XS.iloadN X0.here hexec rfl (hb hbytes d0) rfl ?_
    refine XS.aloadN X0.here hexec rfl (hb hbytes d1) rfl rfl ?_
    exact Steps.refl _)
  have c3 : Steps p.tables e below (s₁.setTop (entryFrame m #[.ref d, .int (Int32.ofNat B.slots.size)] 2)) (s₁.setTop (mkF m 8 #[.val (.ref d), .val (.int (Int32.ofNat B.slots.size))] [.int (lo8 (ushr (Int32.ofNat B.slots.size - Int32.ofNat B.slots.size) 31))])) := c2.trans (by
    refine X0.alen hexec hB0 rfl rfl (hb hbytes d2) ?_
    refine XS.isub X0.here hexec rfl (hb hbytes d3) rfl ?_
    refine bipushV X0.here hexec rfl 31 (hb hbytes d4) (by decide) ?_
    refine iushr X0.here hexec rfl (hb hbytes d6) rfl ?_
    refine i2b X0.here hexec rfl (hb hbytes d7) rfl ?_
    exact Steps.refl _)
  have e0 : lo8 (ushr (Int32.ofNat B.slots.size - Int32.ofNat B.slots.size) 31) = 0 := by rw [Int32.sub_self]; decide
  rw [e0] at c3
  exact ⟨s₁, some (.int 0), _, _, _, X0, rfl, rfl, rfl, (fun h => by cases h), ⟨rfl, hh0⟩, fun fs hl => c3.trans (X0.ireturnOut hexec hret rfl (Or.inr (Or.inr (Or.inl rfl))) (hb hbytes d8) hl)⟩
end CodL
/-- the String at a is Latin-1 over a new byte[] (the heap's one new cell): the low bytes of the len chars of A from o on; every cell but a is kept -/
def Got (a : Addr) (D : Cell) (fV fC : Field) (A : Cell) (o len : Nat) (r : Option Value) (s u : State) : Prop := r = none ∧ ∃ D' V : Cell, Blank "java/lang/String" a D' u ∧ Same D D' [fV.slot, fC.slot] ∧ D'.slots[fV.slot]? = some (.ref s.heap.size) ∧ D'.slots[fC.slot]? = some (.int 0) ∧ Arr .byte s.heap.size V u ∧ V.vm = .none ∧ u.vm.findClass "[B" = some V.cls ∧ V.slots.size = len ∧ (∀ j, j < len → V.slots[j]? = some (.int (lo8 (cv A (o + j))))) ∧ (∀ (y : Addr) (c : Cell), y ≠ a → s.heap[y]? = some c → u.heap[y]? = some c) ∧ u.heap.size = s.heap.size + 1
theorem Got.mv {a : Addr} {D A : Cell} {fV fC : Field} {o len : Nat} : ∀ r (U U' V V' : State), U'.heap = U.heap → V.vm.Alike V'.vm → V'.heap = V.heap → Got a D fV fC A o len r U V → Got a D fV fC A o len r U' V' :=
  fun r U U' V V' h1 hal h2 ⟨e0, D', X, a1, a2, a3, a4, a5, a6, a7, a8, a9, a10, a11⟩ => ⟨e0, D', X, a1.mv hal h2, a2, by rw [h1]; exact a3, a4, by rw [h1]; exact a5.mv hal h2, a6, by rw [hal.findClass]; exact a7, a8, a9, by rw [h1, h2]; exact a10, by rw [h1, h2]; exact a11⟩
namespace New4
def yN : MethodName := ⟨"java/lang/String", "<init>", "([CIILjava/lang/Void;)V"⟩
abbrev yB : ByteArray := jdk_42_method_149_code
theorem d0 : decode yB 0 = .ok (.aload_n 0, 1) := by decide +kernel
theorem d1 : decode yB 1 = .ok (.invokespecial 1, 3) := by decide +kernel
theorem d4 : decode yB 4 = .ok (.iload_n 3, 1) := by decide +kernel
theorem d5 : decode yB 5 = .ok (.ifCond (.ne) 22, 3) := by decide +kernel
theorem d27 : decode yB 27 = .ok (.getstatic 38, 3) := by decide +kernel
theorem d30 : decode yB 30 = .ok (.ifCond (.eq) 28, 3) := by decide +kernel
theorem d33 : decode yB 33 = .ok (.aload_n 1, 1) := by decide +kernel
theorem d34 : decode yB 34 = .ok (.iload_n 2, 1) := by decide +kernel
theorem d35 : decode yB 35 = .ok (.iload_n 3, 1) := by decide +kernel
theorem d36 : decode yB 36 = .ok (.invokestatic 177, 3) := by decide +kernel
theorem d39 : decode yB 39 = .ok (.astore 5, 2) := by decide +kernel
theorem d41 : decode yB 41 = .ok (.aload_n 0, 1) := by decide +kernel
theorem d42 : decode yB 42 = .ok (.aload 5, 2) := by decide +kernel
theorem d44 : decode yB 44 = .ok (.iload_n 3, 1) := by decide +kernel
theorem d45 : decode yB 45 = .ok (.invokestatic 47, 3) := by decide +kernel
theorem d48 : decode yB 48 = .ok (.putfield 15, 3) := by decide +kernel
theorem d51 : decode yB 51 = .ok (.aload_n 0, 1) := by decide +kernel
theorem d52 : decode yB 52 = .ok (.aload 5, 2) := by decide +kernel
theorem d54 : decode yB 54 = .ok (.putfield 9, 3) := by decide +kernel
theorem d57 : decode yB 57 = .ok (.return_, 1) := by decide +kernel
def site : List Cond := [.fieldLink "java/lang/String" 38 "java/lang/String" "COMPACT_STRINGS" "Z", Cmp3.tab, CodL.tab, .laysFinal "java/lang/String" "java/lang/String" "value" "[B", .fieldLink "java/lang/String" 9 "java/lang/String" "value" "[B", .laysFinal "java/lang/String" "java/lang/String" "coder" "B", .fieldLink "java/lang/String" 15 "java/lang/String" "coder" "B"] ++ objW "java/lang/String" 1 ++ staticW "java/lang/String" 177 Cmp3.yN ++ staticW "java/lang/String" 47 CodL.yN
def tab : Cond := tabOf yN yB 6 none site
def P (a : Addr) (D : Cell) (fV fC : Field) (b : Addr) (A : Cell) (z : Int32) (o len : Nat) (args : Array Value) (s : State) : Prop := args = #[.ref a, .ref b, .int (Int32.ofNat o), .int (Int32.ofNat len), .null] ∧ Blank "java/lang/String" a D s ∧ Found "java/lang/String" "value" "[B" fV s ∧ Found "java/lang/String" "coder" "B" fC s ∧ Ch b A s ∧ StaticIs s "java/lang/String" "COMPACT_STRINGS" "Z" (.int z) ∧ ¬ z = 0 ∧ 0 < len ∧ o + len ≤ A.slots.size ∧ len ≤ 536870912 ∧ ∀ i, i < len → ¬ 255 < cv A (o + i)
def E (a : Addr) (D : Cell) (fV fC : Field) (A : Cell) (o len : Nat) (r : Option Value) (s u : State) : Prop := Got a D fV fC A o len r s u
/-- len > 0, no char of the range above 255: a Latin-1 String of their low bytes -/
theorem law (l : Launch) (a : Addr) (D : Cell) (fV fC : Field) (b : Addr) (A : Cell) (z : Int32) (o len : Nat) : Law l yN 5 4 2 35 yB 6 none site (P a D fV fC b A z o len) (E a D fV fC A o len) [⟨a, fC.slot⟩, ⟨a, fV.slot⟩] 1 len := by
  refine Law.of_walk (plainFor_of_name (by decide +kernel)) (by decide +kernel) (by decide +kernel) (by decide) (fun _ _ h => by rw [h.1]; rfl) (fun _ U U' hal hh h => ⟨h.1, h.2.1.mv hal hh, h.2.2.1.al hal, h.2.2.2.1.al hal, h.2.2.2.2.1.mv hal hh, h.2.2.2.2.2.1.there hal hh, h.2.2.2.2.2.2⟩) (fun r U U' V V' h1 hal h2 h => Got.mv r U U' V V' h1 hal h2 h) ?_
  intro p e s m args below meth c s₁ X0 hexec hbytes hml hret hlk hnm hown hh0 W hP
  obtain ⟨rfl, hB, f1, f2, hA, s1, hz, l0, l1, l2, hp⟩ := hP
  have a31 := hA.1.2.2.2
  have c1 : Steps p.tables e below (s₁.setTop (entryFrame m #[.ref a, .ref b, .int (Int32.ofNat o), .int (Int32.ofNat len), .null] 6)) (s₁.setTop (mkF m 0 #[.val (.ref a), .val (.ref b), .val (.int (Int32.ofNat o)), .val (.int (Int32.ofNat len)), .val .null, .unset] [])) := entry rfl
  have c2 : Steps p.tables e below (s₁.setTop (entryFrame m #[.ref a, .ref b, .int (Int32.ofNat o), .int (Int32.ofNat len), .null] 6)) (s₁.setTop (mkF m 1 #[.val (.ref a), .val (.ref b), .val (.int (Int32.ofNat o)), .val (.int (Int32.ofNat len)), .val .null, .unset] [.ref a])) := c1.trans (by
    refine XS.aloadN X0.here hexec rfl (hb hbytes d0) rfl rfl ?_
    exact Steps.refl _)
  obtain ⟨T3, X3, q3, st3⟩ := X0.oinit hexec hown (wks W (objW "java/lang/String" 1)) (g := (mkF m 1 #[.val (.ref a), .val (.ref b), .val (.int (Int32.ofNat o)), .val (.int (Int32.ofNat len)), .val .null, .unset] [.ref a])) rfl (by rw [hml]; rfl) (rest := []) rfl (hb hbytes d1) (W := 0) (by show 2 * 0 + 0 ≤ _; decide) (Nat.le_of_ble_eq_true rfl) (Nat.le_of_ble_eq_true rfl)
  have hh3 := q3.trans hh0
  have c4 : Steps p.tables e below (s₁.setTop (entryFrame m #[.ref a, .ref b, .int (Int32.ofNat o), .int (Int32.ofNat len), .null] 6)) (T3.setTop (mkF m 27 #[.val (.ref a), .val (.ref b), .val (.int (Int32.ofNat o)), .val (.int (Int32.ofNat len)), .val .null, .unset] [])) := (c2.trans (st3 _ (Steps.refl _))).trans (by
    refine XS.iloadN X3.here hexec rfl (hb hbytes d4) rfl ?_
    refine XS.ifYes X3.here hexec rfl (pc0 := 5) rfl (hb hbytes d5) rfl (i0_ne_t (nz32 (by omega) l0)) (by decide) rfl ?_
    exact Steps.refl _)
  obtain ⟨T5, X5, q5, st5⟩ := X3.sget hexec hown (wk W (.fieldLink "java/lang/String" 38 "java/lang/String" "COMPACT_STRINGS" "Z")) s1 (fun _ _ h => by rw [hh3]; exact h) (g := (mkF m 27 #[.val (.ref a), .val (.ref b), .val (.int (Int32.ofNat o)), .val (.int (Int32.ofNat len)), .val .null, .unset] [])) rfl (hb hbytes d27)
  have hh5 := q5.trans hh3
  have c6 : Steps p.tables e below (s₁.setTop (entryFrame m #[.ref a, .ref b, .int (Int32.ofNat o), .int (Int32.ofNat len), .null] 6)) (T5.setTop (mkF m 30 #[.val (.ref a), .val (.ref b), .val (.int (Int32.ofNat o)), .val (.int (Int32.ofNat len)), .val .null, .unset] [.int z])) := c4.trans (st5 _ (Steps.refl _))
  have c7 : Steps p.tables e below (s₁.setTop (entryFrame m #[.ref a, .ref b, .int (Int32.ofNat o), .int (Int32.ofNat len), .null] 6)) (T5.setTop (mkF m 36 #[.val (.ref a), .val (.ref b), .val (.int (Int32.ofNat o)), .val (.int (Int32.ofNat len)), .val .null, .unset] [.int (Int32.ofNat len), .int (Int32.ofNat o), .ref b])) := c6.trans (by
    refine XS.ifNo X5.here hexec rfl (hb hbytes d30) rfl (i0_eq_f hz) ?_
    refine XS.aloadN X5.here hexec rfl (hb hbytes d33) rfl rfl ?_
    refine XS.iloadN X5.here hexec rfl (hb hbytes d34) rfl ?_
    refine XS.iloadN X5.here hexec rfl (hb hbytes d35) rfl ?_
    exact Steps.refl _)
  obtain ⟨v8, T8, X8, E8, g8⟩ := X5.callS hexec (Cmp3.law l b A o len) hown (wks W (staticW "java/lang/String" 177 Cmp3.yN)) (wk W Cmp3.tab) (W := 0) (Nat.le_of_ble_eq_true rfl) (Nat.le_of_ble_eq_true rfl) (Nat.le_refl _) (by show 0 + len ≤ len; omega) (g := (mkF m 36 #[.val (.ref a), .val (.ref b), .val (.int (Int32.ofNat o)), .val (.int (Int32.ofNat len)), .val .null, .unset] [.int (Int32.ofNat len), .int (Int32.ofNat o), .ref b])) rfl (by rw [hml]; rfl) c7 (argsL := [.ref b, .int (Int32.ofNat o), .int (Int32.ofNat len)]) (rest := []) rfl rfl (by show 2 * 0 + 0 ≤ _; decide) (hb hbytes d36) (⟨rfl, hA.mv X5.warmed.alike hh5, l1, l2, hp⟩)
  obtain ⟨e8, z8⟩ := E8
  obtain ⟨rfl, N, n1, n2, n3, n4, n5, n6⟩ := NewArr.mv _ T5 s _ _ hh5.symm (Vm.Alike.refl _) rfl e8
  rw [hh5] at z8
  have hB1 := hB.keep X8.warmed.alike (n6 _ _ hB.1)
  have hne : s.heap.size ≠ a := (Nat.ne_of_lt (Array.getElem?_eq_some_iff.mp hB.1).1).symm
  have c9 : Steps p.tables e below (s₁.setTop (entryFrame m #[.ref a, .ref b, .int (Int32.ofNat o), .int (Int32.ofNat len), .null] 6)) (T8.setTop (mkF m 39 #[.val (.ref a), .val (.ref b), .val (.int (Int32.ofNat o)), .val (.int (Int32.ofNat len)), .val .null, .unset] [.ref s.heap.size])) := g8
  have c10 : Steps p.tables e below (s₁.setTop (entryFrame m #[.ref a, .ref b, .int (Int32.ofNat o), .int (Int32.ofNat len), .null] 6)) (T8.setTop (mkF m 45 #[.val (.ref a), .val (.ref b), .val (.int (Int32.ofNat o)), .val (.int (Int32.ofNat len)), .val .null, .val (.ref s.heap.size)] [.int (Int32.ofNat N.slots.size), .ref s.heap.size, .ref a])) := by
    have hc : Steps p.tables e below (s₁.setTop (entryFrame m #[.ref a, .ref b, .int (Int32.ofNat o), .int (Int32.ofNat len), .null] 6)) (T8.setTop (mkF m 45 #[.val (.ref a), .val (.ref b), .val (.int (Int32.ofNat o)), .val (.int (Int32.ofNat len)), .val .null, .val (.ref s.heap.size)] [.int (Int32.ofNat len), .ref s.heap.size, .ref a])) := c9.trans (by
      refine XS.astore X8.here hexec rfl (hb hbytes d39) rfl rfl rfl ?_
      refine XS.aloadN X8.here hexec rfl (hb hbytes d41) rfl rfl ?_
      refine XS.aload X8.here hexec rfl (hb hbytes d42) rfl rfl ?_
      refine XS.iloadN X8.here hexec rfl (hb hbytes d44) rfl ?_
      exact Steps.refl _)
    rw [n4]; exact hc
  obtain ⟨v11, T11, X11, E11, g11⟩ := X8.callS hexec (CodL.law l s.heap.size N) hown (wks W (staticW "java/lang/String" 47 CodL.yN)) (wk W CodL.tab) (W := 1) (Nat.le_of_ble_eq_true rfl) (Nat.le_of_ble_eq_true rfl) (Nat.le_refl _) (by show 0 + len + 0 ≤ len; omega) (g := (mkF m 45 #[.val (.ref a), .val (.ref b), .val (.int (Int32.ofNat o)), .val (.int (Int32.ofNat len)), .val .null, .val (.ref s.heap.size)] [.int (Int32.ofNat N.slots.size), .ref s.heap.size, .ref a])) rfl (by rw [hml]; rfl) c10 (argsL := [.ref s.heap.size, .int (Int32.ofNat N.slots.size)]) (rest := [.ref a]) rfl rfl (by show 2 * 0 + (1 + 0) ≤ _; decide) (hb hbytes d45) (⟨rfl, n1⟩)
  obtain ⟨rfl, q11⟩ := E11
  have hB11 := hB1.mv (X8.warmed.alike.symm.trans X11.warmed.alike) q11
  have c12 : Steps p.tables e below (s₁.setTop (entryFrame m #[.ref a, .ref b, .int (Int32.ofNat o), .int (Int32.ofNat len), .null] 6)) (T11.setTop (mkF m 48 #[.val (.ref a), .val (.ref b), .val (.int (Int32.ofNat o)), .val (.int (Int32.ofNat len)), .val .null, .val (.ref s.heap.size)] [.int 0, .ref a])) := g11
  obtain ⟨T13, X13, p13, bl13, sl13, st13⟩ := X11.finit hexec hown (wk W (.fieldLink "java/lang/String" 15 "java/lang/String" "coder" "B")) (Or.inr ⟨_, (wk W (.laysFinal "java/lang/String" "java/lang/String" "coder" "B"))⟩) (Or.inl ⟨rfl, hnm⟩) f2 (Or.inl rfl) hB11 (t := .byte) (by decide +kernel) rfl (g := (mkF m 48 #[.val (.ref a), .val (.ref b), .val (.int (Int32.ofNat o)), .val (.int (Int32.ofNat len)), .val .null, .val (.ref s.heap.size)] [.int 0, .ref a])) rfl (rest := []) rfl (hb hbytes d48)
  have c14 : Steps p.tables e below (s₁.setTop (entryFrame m #[.ref a, .ref b, .int (Int32.ofNat o), .int (Int32.ofNat len), .null] 6)) (T13.setTop (mkF m 54 #[.val (.ref a), .val (.ref b), .val (.int (Int32.ofNat o)), .val (.int (Int32.ofNat len)), .val .null, .val (.ref s.heap.size)] [.ref s.heap.size, .ref a])) := (c12.trans (st13 _ (Steps.refl _))).trans (by
    refine XS.aloadN X13.here hexec rfl (hb hbytes d51) rfl rfl ?_
    refine XS.aload X13.here hexec rfl (hb hbytes d52) rfl rfl ?_
    exact Steps.refl _)
  obtain ⟨T15, X15, p15, bl15, sl15, st15⟩ := X13.finit hexec hown (wk W (.fieldLink "java/lang/String" 9 "java/lang/String" "value" "[B")) (Or.inr ⟨_, (wk W (.laysFinal "java/lang/String" "java/lang/String" "value" "[B"))⟩) (Or.inl ⟨rfl, hnm⟩) f1 (Or.inl rfl) bl13 (t := (.array .byte)) (by decide +kernel) rfl (g := (mkF m 54 #[.val (.ref a), .val (.ref b), .val (.int (Int32.ofNat o)), .val (.int (Int32.ofNat len)), .val .null, .val (.ref s.heap.size)] [.ref s.heap.size, .ref a])) rfl (rest := []) rfl (hb hbytes d54)
  have c16 : Steps p.tables e below (s₁.setTop (entryFrame m #[.ref a, .ref b, .int (Int32.ofNat o), .int (Int32.ofNat len), .null] 6)) (T15.setTop (mkF m 57 #[.val (.ref a), .val (.ref b), .val (.int (Int32.ofNat o)), .val (.int (Int32.ofNat len)), .val .null, .val (.ref s.heap.size)] [])) := c14.trans (st15 _ (Steps.refl _))
  have ap := apart (Or.inr ⟨_, (wk W (.laysFinal "java/lang/String" "java/lang/String" "value" "[B"))⟩) (Or.inr ⟨_, (wk W (.laysFinal "java/lang/String" "java/lang/String" "coder" "B"))⟩) f1 f2 (t₁ := .array .byte) (t₂ := .byte) (by decide +kernel) (by decide +kernel) (by decide)
  have al := X8.warmed.alike.symm.trans X15.warmed.alike
  have n7 : T11.heap[s.heap.size]? = some N := by rw [q11]; exact n1.1
  exact ⟨T15, none, _, _, _, X15, by simp, rfl, by omega, (fun _ => rfl), ⟨rfl, _, N, bl15, ((Same.refl D _).set _ (by simp)).set _ (by simp), sl15, (Cell.slots_setSlot_ne _ ap).trans sl13, n1.keep al (p15.other hne (p13.other hne n7)), n2, by rw [al.findClass]; exact n3, n4, n5, fun y c h1 h2 => p15.other h1 (p13.other h1 (by rw [q11]; exact n6 y c h2)), by rw [p15.2.2, p13.2.2, q11]; exact z8⟩, fun fs hl => c16.trans (X15.returnOut hexec hret (hb hbytes d57) hl)⟩
end New4
namespace New1
def yN : MethodName := ⟨"java/lang/String", "<init>", "([C)V"⟩
abbrev yB : ByteArray := jdk_42_method_3_code
theorem d0 : decode yB 0 = .ok (.aload_n 0, 1) := by decide +kernel
theorem d1 : decode yB 1 = .ok (.aload_n 1, 1) := by decide +kernel
theorem d2 : decode yB 2 = .ok (.iconst 0, 1) := by decide +kernel
theorem d3 : decode yB 3 = .ok (.aload_n 1, 1) := by decide +kernel
theorem d4 : decode yB 4 = .ok (.arraylength, 1) := by decide +kernel
theorem d5 : decode yB 5 = .ok (.aconst_null, 1) := by decide +kernel
theorem d6 : decode yB 6 = .ok (.invokespecial 27, 3) := by decide +kernel
theorem d9 : decode yB 9 = .ok (.return_, 1) := by decide +kernel
def site : List Cond := [New4.tab] ++ initW "java/lang/String" 27 New4.yN
def tab : Cond := tabOf yN yB 2 none site
def P (a : Addr) (D : Cell) (fV fC : Field) (b : Addr) (A : Cell) (z : Int32) (args : Array Value) (s : State) : Prop := args = #[.ref a, .ref b] ∧ Blank "java/lang/String" a D s ∧ Found "java/lang/String" "value" "[B" fV s ∧ Found "java/lang/String" "coder" "B" fC s ∧ Ch b A s ∧ StaticIs s "java/lang/String" "COMPACT_STRINGS" "Z" (.int z) ∧ ¬ z = 0 ∧ 0 < A.slots.size ∧ A.slots.size ≤ 536870912 ∧ ∀ i, i < A.slots.size → ¬ 255 < cv A i
def E (a : Addr) (D : Cell) (fV fC : Field) (A : Cell) (r : Option Value) (s u : State) : Prop := Got a D fV fC A 0 A.slots.size r s u
/-- new String(chars), not empty, no char above 255: a Latin-1 String of their low bytes -/
theorem law (l : Launch) (a : Addr) (D : Cell) (fV fC : Field) (b : Addr) (A : Cell) (z : Int32) : Law l yN 2 1 3 52 yB 2 none site (P a D fV fC b A z) (E a D fV fC A) [⟨a, fC.slot⟩, ⟨a, fV.slot⟩] 1 A.slots.size := by
  refine Law.of_walk (plainFor_of_name (by decide +kernel)) (by decide +kernel) (by decide +kernel) (by decide) (fun _ _ h => by rw [h.1]; rfl) (fun _ U U' hal hh h => ⟨h.1, h.2.1.mv hal hh, h.2.2.1.al hal, h.2.2.2.1.al hal, h.2.2.2.2.1.mv hal hh, h.2.2.2.2.2.1.there hal hh, h.2.2.2.2.2.2⟩) (fun r U U' V V' h1 hal h2 h => Got.mv r U U' V V' h1 hal h2 h) ?_
  intro p e s m args below meth c s₁ X0 hexec hbytes hml hret hlk hnm hown hh0 W hP
  obtain ⟨rfl, hB, f1, f2, hA, s1, hz, l0, l2, hp⟩ := hP
  have c1 : Steps p.tables e below (s₁.setTop (entryFrame m #[.ref a, .ref b] 2)) (s₁.setTop (mkF m 0 #[.val (.ref a), .val (.ref b)] [])) := entry rfl
  have c2 : Steps p.tables e below (s₁.setTop (entryFrame m #[.ref a, .ref b] 2)) (s₁.setTop (mkF m 6 #[.val (.ref a), .val (.ref b)] [.null, .int (Int32.ofNat A.slots.size), .int 0, .ref b, .ref a])) := c1.trans (by
    refine XS.aloadN X0.here hexec rfl (hb hbytes d0) rfl rfl ?_
    refine XS.aloadN X0.here hexec rfl (hb hbytes d1) rfl rfl ?_
    refine iconstV X0.here hexec rfl 0 (hb hbytes d2) (by decide) ?_
    refine XS.aloadN X0.here hexec rfl (hb hbytes d3) rfl rfl ?_
    refine X0.alen hexec (hA.1.mv X0.warmed.alike hh0) rfl rfl (hb hbytes d4) ?_
    refine XS.aconstNull X0.here hexec rfl (hb hbytes d5) ?_
    exact Steps.refl _)
  obtain ⟨v3, T3, X3, E3, g3⟩ := X0.callN hexec (New4.law l a D fV fC b A z 0 A.slots.size) rfl hown (wks W (initW "java/lang/String" 27 New4.yN)) (W New4.tab (by simp only [site, List.mem_cons, List.mem_append, true_or, or_true])) (W := 0) (Nat.le_of_ble_eq_true rfl) (Nat.le_of_ble_eq_true rfl) (Nat.le_refl _) (by show 0 + A.slots.size ≤ A.slots.size; omega) (g := (mkF m 6 #[.val (.ref a), .val (.ref b)] [.null, .int (Int32.ofNat A.slots.size), .int (Int32.ofNat 0), .ref b, .ref a])) rfl (by rw [hml]; rfl) c2 (argsL := [.ref b, .int (Int32.ofNat 0), .int (Int32.ofNat A.slots.size), .null]) (rest := []) rfl rfl (by show 2 * 0 + 0 ≤ _; decide) (hb hbytes d6) (⟨rfl, hB.mv X0.warmed.alike hh0, f1.al X0.warmed.alike, f2.al X0.warmed.alike, hA.mv X0.warmed.alike hh0, s1.there X0.warmed.alike hh0, hz, l0, by omega, l2, fun i hi => by rw [Nat.zero_add]; exact hp i hi⟩)
  have e0 := Got.mv _ s₁ s _ _ hh0.symm (Vm.Alike.refl _) rfl E3
  obtain rfl := e0.1
  have c4 : Steps p.tables e below (s₁.setTop (entryFrame m #[.ref a, .ref b] 2)) (T3.setTop (mkF m 9 #[.val (.ref a), .val (.ref b)] [])) := g3
  exact ⟨T3, none, _, _, _, X3, by simp, rfl, by omega, (fun _ => rfl), e0, fun fs hl => c4.trans (X3.returnOut hexec hret (hb hbytes d9) hl)⟩
theorem pays {l : Launch} {R : Room} {p : Program} {e : Env} {below : List Frame} {s : State} {sargs : Array Value} {len W : Nat} (a : Addr) (D : Cell) (fV fC : Field) (b : Addr) (A : Cell) (z : Int32) (htab : tab.before sargs s = true) (hfr : 4 ≤ R.frames) (hlo : W + 65 ≤ R.locals) :
    Back l R p e below s sargs yN len W (fun A₁ a₁ => A₁.cells + 1 ≤ R.cells ∧ A₁.slots + A.slots.size ≤ R.slots ∧ P a D fV fC b A z a₁ A₁.U) (fun A₁ _ v₁ B₁ => E a D fV fC A v₁ A₁.U B₁.U ∧ B₁.locs = A₁.locs ++ [⟨a, fC.slot⟩, ⟨a, fV.slot⟩] ∧ B₁.cells = A₁.cells + 1 ∧ B₁.slots = A₁.slots + A.slots.size) :=
  (law l a D fV fC b A z).pays htab hfr (by omega)
end New1
/-- the byte, read back as charAt reads it, is the char -/
theorem lo8_mask {x : Int32} (h0 : ¬ x < 0) (h1 : ¬ 255 < x) : lo8 x &&& 255 = x := by
  have t : ∀ k : Fin 256, lo8 (Int32.ofNat k.val) &&& 255 = Int32.ofNat k.val := by decide +kernel
  rw [Int32.lt_iff_toInt_lt] at h0 h1
  have e0 : (0 : Int32).toInt = 0 := rfl
  have e1 : (255 : Int32).toInt = 255 := rfl
  obtain ⟨k, hk⟩ : ∃ k : Nat, x.toInt = k := ⟨x.toInt.toNat, by omega⟩
  have hx : x = Int32.ofNat k := Int32.toInt_inj.mp (by rw [hk, Int32.toInt_ofNat_small (by omega)])
  rw [hx]
  exact t ⟨k, by omega⟩
end StrChars
namespace StrChars.Road
open Jvm Sem ClassFile Op Lib Jvm.Stand Jvm.Free Jvm.Free.XT
open Jvm.Lib.Cold (StaticIs)
abbrev ST : String := "java/lang/String"
/-- every table word that New1's law asks, flat -/
abbrev words : List Jvm.Cond := [.code New1.yN New1.yB 2 none, .initialized ST, .methodLink ST 27 New4.yN, .instanceMethod New4.yN,
  .code New4.yN New4.yB 6 none, .fieldLink ST 38 ST "COMPACT_STRINGS" "Z", .laysFinal ST ST "value" "[B", .fieldLink ST 9 ST "value" "[B", .laysFinal ST ST "coder" "B", .fieldLink ST 15 ST "coder" "B",
  .methodLink ST 1 Lib.objectInit, .instanceMethod Lib.objectInit, .code Lib.objectInit ⟨#[0xb1]⟩ 1 none, .methodLink ST 177 Cmp3.yN, .static Cmp3.yN, .methodLink ST 47 CodL.yN, .static CodL.yN,
  .code Cmp3.yN Cmp3.yB 6 (some (.array .byte)), .initialized U16, .arrayClass .byte, .methodLink U16 115 Cmp5.yN, .static Cmp5.yN, .code Cmp5.yN Cmp5.yB 7 (some .int), .code CodL.yN CodL.yB 2 (some .byte)]
theorem tab_of {a : Array Value} {s : State} (h : ∀ w ∈ words, w.before a s = true) : New1.tab.before a s = true := by
  have h5 : Cmp5.tab.before a s = true := unparts (wk h (.code Cmp5.yN Cmp5.yB 7 (some .int))) (wks h (.initialized Cmp5.yN.cls :: Cmp5.site))
  have hc : CodL.tab.before a s = true := unparts (wk h (.code CodL.yN CodL.yB 2 (some .byte))) (wks h (.initialized CodL.yN.cls :: CodL.site))
  have q5 : ∀ w ∈ Cmp5.tab :: words, w.before a s = true := fun w hw => (List.mem_cons.mp hw).elim (fun e => e ▸ h5) (h w)
  have h3 : Cmp3.tab.before a s = true := unparts (wk q5 (.code Cmp3.yN Cmp3.yB 6 (some (.array .byte)))) (wks q5 (.initialized Cmp3.yN.cls :: Cmp3.site))
  have q3 : ∀ w ∈ Cmp3.tab :: CodL.tab :: words, w.before a s = true := fun w hw => (List.mem_cons.mp hw).elim (fun e => e ▸ h3) fun hw => (List.mem_cons.mp hw).elim (fun e => e ▸ hc) (h w)
  have h4 : New4.tab.before a s = true := unparts (wk q3 (.code New4.yN New4.yB 6 none)) (wks q3 (.initialized New4.yN.cls :: New4.site))
  have q4 : ∀ w ∈ New4.tab :: words, w.before a s = true := fun w hw => (List.mem_cons.mp hw).elim (fun e => e ▸ h4) (h w)
  exact unparts (wk q4 (.code New1.yN New1.yB 2 none)) (wks q4 (.initialized New1.yN.cls :: New1.site))
/-- the words ride from the start Z to the walk's own state -/
theorem moved {Z s : State} {a0 args : Array Value} (hZ : Z.Warmed39 s.vm) (hw : ∀ d ∈ words, d.before a0 Z = true) : ∀ d ∈ words, d.before args s = true := fun d hd => by
  have q := hw d hd
  have t : ∀ d ∈ words, d = .arrayClass .byte ∨ (d.onTables && d.keepsFace) = true := by decide +kernel
  rcases t d hd with rfl | t
  · exact RoadKit.mvA hZ q
  · exact RoadKit.mv hZ q t
/-- WHAT COMES BACK, over the tables of the start Z: h the heap at the call, h' behind it -/
def Q (Z : State) (x : Addr) (A : Cell) (h : Heap) (v : Option Value) (h' : Heap) (L : List Loc) : Prop := v = none ∧ (∀ y ∈ L, y.base = x) ∧ RoadKit.Keep h h' [x] ∧ h'.size = h.size + 1 ∧ RoadKit.Exa Z h' x ST ∧ RoadKit.Fld Z h' x ST "value" "[B" (.ref h.size) ∧ RoadKit.Fld Z h' x ST "coder" "B" (.int 0) ∧
  (∃ V : Cell, RoadKit.Arr Z h' h.size V .byte ∧ V.vm = .none ∧ Z.vm.findClass "[B" = some V.cls ∧ V.slots.size = A.slots.size ∧ ∀ j, j < A.slots.size → V.slots[j]? = some (.int (lo8 (cv A j)))) ∧
  ∀ (O n d : String) (w : Value), RoadKit.Fld Z h x O n d w → RoadKit.slotOf Z O n d ≠ RoadKit.slotOf Z ST "value" "[B" → RoadKit.slotOf Z O n d ≠ RoadKit.slotOf Z ST "coder" "B" → RoadKit.Fld Z h' x O n d w
/-- **new String(chars) AT A CALL, IN THE ROAD'S FORM**: for specialBack behind newO: x the fresh String, b the char[] with the cell A -/
theorem back {p : Program} {l : Launch} {e : Env} {R : Room} {s : State} {args : Array Value} {below : List Frame} {len W : Nat} {Z : State} {a0 : Array Value} {h : Heap} (hZ : Z.Warmed39 s.vm) (hw : ∀ d ∈ words, d.before a0 Z = true) {kI : Nat} (wi : (Jvm.Cond.instantiable ST kI).before a0 Z = true)
    {x b : Addr} {A : Cell} {z : Int32} {v0 c0 : Value} (E : RoadKit.Exa Z h x ST) (V : RoadKit.Fld Z h x ST "value" "[B" v0) (C : RoadKit.Fld Z h x ST "coder" "B" c0) (K : RoadKit.Arr Z h b A .char) (hty : Typed .char A) (S : RoadKit.Sta Z h ST "COMPACT_STRINGS" "Z" (.int z)) (hz : ¬ z = 0)
    (l0 : 0 < A.slots.size) (l2 : A.slots.size ≤ 536870912) (hp : ∀ i, i < A.slots.size → ¬ 255 < cv A i) (hfr : 4 ≤ R.frames) (hlo : W + 65 ≤ R.locals) :
    Back l R p e below s args New1.yN len W (fun P a => a = #[.ref x, .ref b] ∧ P.U.heap = h ∧ P.cells + 1 ≤ R.cells ∧ P.slots + A.slots.size ≤ R.slots)
      (fun P _ v B => ∃ L, Q Z x A h v B.U.heap L ∧ B.locs = P.locs ++ L ∧ B.cells = P.cells + 1 ∧ B.slots = P.slots + A.slots.size) := by
  intro m meth c P g ig mk a X hg hsize hdg hW hn hp'
  obtain ⟨rfl, rfl, r1, r2⟩ := hp'
  have al : Z.vm.Alike P.U.vm := hZ.alike.trans X.warmed.alike
  obtain ⟨D, cfV, kV, iV, fV, hD, gV, stV, knV, obV, asV, slV⟩ := id V
  obtain ⟨D', cfC, kC, iC, fC, hD', gC, stC, -, -, asC, slC⟩ := id C
  cases hD.symm.trans hD'
  obtain ⟨D2, kD, e1, e2, e3, e4, e5⟩ := id E
  cases hD.symm.trans e1
  obtain ⟨c2, k2, i1, i2, i3, -⟩ := Cond.instantiable_spec wi
  cases e2.symm.trans i1
  cases e3.symm.trans i2
  obtain ⟨kU, u1, u2⟩ := al.2.2 _ _ e3
  have hB : Blank ST x D P.U := ⟨hD, ⟨knV, fun q hq => by rw [hq] at obV; cases obV⟩, by rw [al.findClass]; exact e2, kU, u1, by rw [u2]; exact i3, by rw [u2]; exact e5 i3⟩
  have F1 : Found ST "value" "[B" fV P.U := ⟨SBG.found_only al ⟨cfV, kV, iV, gV⟩, stV⟩
  have F2 : Found ST "coder" "B" fC P.U := ⟨SBG.found_only al ⟨cfC, kC, iC, gC⟩, stC⟩
  have hA : Ch b A P.U := ⟨⟨K.1, State.isArrayOf_alike al K.2.1, K.2.2, by omega⟩, hty⟩
  have hS : StaticIs P.U ST "COMPACT_STRINGS" "Z" (.int z) := by
    obtain ⟨cfS, iS, kS, fS, st, cS, t1, t2, t3, t4, t5, t6, t7⟩ := S
    exact StaticIs.there (s := { Z with heap := P.U.heap }) ⟨cfS, iS, kS, fS, st, cS, t1, t2, t3, t4, t5, (fun q => by rw [q] at t6; cases t6), t7⟩ al rfl
  obtain ⟨v, B, X', ⟨⟨hv, E', V', q1, q2, q3, q4, q5, q6, q7, q8, q9, q10, q11⟩, hl, hc, hs⟩, st⟩ := New1.pays x D fV fC b A z (tab_of (moved hZ hw)) hfr hlo m meth c P g ig mk _ X hg hsize hdg hW hn ⟨r1, r2, rfl, hB, F1, F2, hA, hS, hz, l0, l2, hp⟩
  have al' : Z.vm.Alike B.U.vm := hZ.alike.trans X'.warmed.alike
  have hsz : E'.slots.size = D.slots.size := by
    obtain ⟨-, -, -, kB, w1, w2, w3⟩ := q1
    obtain ⟨kB', y1, y2⟩ := al'.2.2 _ _ e3
    rw [q2.2.1] at w1
    cases w1.symm.trans y1
    rw [w3, e5 i3, y2]
  refine ⟨v, B, X', ⟨_, ⟨hv, ?_, ⟨by omega, fun y cy hy hn' => q10 y cy (by simpa using hn') hy, fun y cy hy => ?_⟩, q11, ⟨E', _, q1.1, by rw [q2.2.1]; exact e2, by rw [q2.2.1]; exact e3, by rw [q2.1]; exact obV, fun _ => by rw [hsz]; exact e5 i3⟩,
    ⟨E', cfV, kV, iV, fV, q1.1, gV, stV, by rw [q2.1]; exact knV, by rw [q2.1]; exact obV, by rw [q2.2.1]; exact asV, q3⟩, ⟨E', cfC, kC, iC, fC, q1.1, gC, stC, by rw [q2.1]; exact knV, by rw [q2.1]; exact obV, by rw [q2.2.1]; exact asC, q4⟩,
    ⟨V', ⟨q5.1, State.isArrayOf_alike al'.symm q5.2.1, q5.2.2.1⟩, q6, by rw [← al'.findClass]; exact q7, q8, fun j hj => by have := q9 j hj; rwa [Nat.zero_add] at this⟩, fun O n d w F n1 n2 => ?_⟩, hl, hc, hs⟩, st⟩
  · intro y hy
    simp only [List.mem_cons, List.not_mem_nil, or_false] at hy
    rcases hy with rfl | rfl <;> rfl
  · by_cases q : y = x
    · subst q
      cases hD.symm.trans hy
      exact ⟨E', q1.1, q2.2.1, q2.1, hsz⟩
    · exact ⟨cy, q10 y cy q hy, rfl, rfl, rfl⟩
  · obtain ⟨D3, cf, k, i, f, g1, g2, g3, g4, g5, g6, g7⟩ := F
    cases hD.symm.trans g1
    simp only [RoadKit.slotOf, g2, gV, gC, Option.map_some, Option.getD_some] at n1 n2
    exact ⟨E', cf, k, i, f, q1.1, g2, g3, by rw [q2.1]; exact g4, by rw [q2.1]; exact g5, by rw [q2.2.1]; exact g6, by rw [q2.2.2 f.slot (by simp [n1, n2])]; exact g7⟩
end StrChars.Road
namespace StrChars.Road
open Jvm Sem ClassFile Op Lib Jvm.Stand Jvm.Free Jvm.Free.XT
/-- WHAT COMES BACK, the byte[] as a list of values -/
def QA (Z : State) (x : Addr) (zn : Int32) (cs : List Int32) (h : Heap) (v : Option Value) (h' : Heap) (L : List Loc) : Prop := v = none ∧ (∀ y ∈ L, y.base = x) ∧ RoadKit.Keep h h' [x] ∧ h'.size = h.size + 1 ∧ RoadKit.Exa Z h' x ST ∧ RoadKit.Fld Z h' x ST "value" "[B" (.ref h.size) ∧ RoadKit.Fld Z h' x ST "coder" "B" (.int 0) ∧
  (∃ kb, Z.vm.findClass "[B" = some kb ∧ RoadKit.Arv Z h' h.size kb .byte zn (cs.map fun c => .int (lo8 c)) (.int 0)) ∧
  ∀ (O n d : String) (w : Value), RoadKit.Fld Z h x O n d w → RoadKit.slotOf Z O n d ≠ RoadKit.slotOf Z ST "value" "[B" → RoadKit.slotOf Z O n d ≠ RoadKit.slotOf Z ST "coder" "B" → RoadKit.Fld Z h' x O n d w
/-- **new String(chars) AT A CALL, THE ARRAYS AS LISTS**: the char[] at b holds cs, not empty, no char above 255 -/
theorem backArv {p : Program} {l : Launch} {e : Env} {R : Room} {s : State} {args : Array Value} {below : List Frame} {len W : Nat} {Z : State} {a0 : Array Value} {h : Heap} (hZ : Z.Warmed39 s.vm) (hw : ∀ d ∈ words, d.before a0 Z = true) {kI : Nat} (wi : (Jvm.Cond.instantiable ST kI).before a0 Z = true)
    {x b : Addr} {k : ClassId} {zn z : Int32} {cs : List Int32} {dv v0 c0 : Value} (E : RoadKit.Exa Z h x ST) (V : RoadKit.Fld Z h x ST "value" "[B" v0) (C : RoadKit.Fld Z h x ST "coder" "B" c0) (K : RoadKit.Arv Z h b k .char zn (cs.map Value.int) dv) (S : RoadKit.Sta Z h ST "COMPACT_STRINGS" "Z" (.int z)) (hz : ¬ z = 0)
    (hlen : zn.toNatClampNeg = cs.length) (h0 : 0 < cs.length) (hbig : cs.length ≤ 536870912) (hall : ∀ c ∈ cs, ¬ 255 < c) (hfr : 4 ≤ R.frames) (hlo : W + 65 ≤ R.locals) :
    Back l R p e below s args New1.yN len W (fun P a => a = #[.ref x, .ref b] ∧ P.U.heap = h ∧ P.cells + 1 ≤ R.cells ∧ P.slots + cs.length ≤ R.slots)
      (fun P _ v B => ∃ L, QA Z x zn cs h v B.U.heap L ∧ B.locs = P.locs ++ L ∧ B.cells = P.cells + 1 ∧ B.slots = P.slots + cs.length) := by
  obtain ⟨A, K1, K2, K3, K4, K5, K6⟩ := K
  have e : A.slots.size = cs.length := K3.trans hlen
  have hat : ∀ (i : Nat) (hi : i < cs.length), A.slots[i]? = some (.int cs[i]) := fun i hi => by rw [K5 i (by omega)]; simp [List.getD_eq_getElem?_getD, hi]
  have hcv : ∀ (i : Nat) (hi : i < cs.length), cv A i = cs[i] := fun i hi => by unfold cv; rw [hat i hi]
  have hty : Typed .char A := fun i v hv => by
    have hi : i < A.slots.size := (Array.getElem?_eq_some_iff.mp hv).1
    have q := K5 i hi
    rw [hv] at q
    rw [Option.some.inj q]
    exact K6 i hi
  refine Back.mono (back hZ hw wi E V C K1 hty S hz (by omega) (by omega) (fun i hi => by rw [hcv i (by omega)]; exact hall _ (List.getElem_mem _)) hfr hlo) (fun P a hp => ⟨hp.1, hp.2.1, hp.2.2.1, by rw [e]; exact hp.2.2.2⟩) (fun P a v B hp hq => ?_)
  obtain ⟨L, ⟨q1, q2, q3, q4, q5, q6, q7, ⟨V', v1, v2, v3, v4, v5⟩, q9⟩, hl, hc, hs⟩ := hq
  refine ⟨L, ⟨q1, q2, q3, q4, q5, q6, q7, ⟨V'.cls, v3, V', v1, rfl, by rw [v4, e, hlen], K4, fun i hi => ?_, fun i hi => ?_⟩, q9⟩, hl, hc, by rw [hs, e]⟩
  · have hi' : i < cs.length := by omega
    rw [v5 i (by omega), hcv i hi']; simp [List.getD_eq_getElem?_getD, hi']
  · have hi' : i < cs.length := by omega
    simp only [List.getD_eq_getElem?_getD, List.getElem?_map, List.getElem?_eq_getElem hi', Option.map_some, Option.getD_some]
    exact fits_lo8 _
end StrChars.Road
namespace StrChars.Road
open Jvm Sem ClassFile Op Lib Jvm.Stand Jvm.Free Jvm.Free.XT
/-- WHAT COMES BACK, in the writer's own shape -/
def QV (Z : State) (x : Addr) (N : Int32) (bs : List Int32) (h : Heap) (n0 : Nat) (v : Option Value) (h' : Heap) (L : List Loc) : Prop := v = none ∧ RoadKit.Fr n0 L ∧ RoadKit.Keep h h' [x] ∧ RoadKit.Exa Z h' x ST ∧ RoadKit.Fld Z h' x ST "coder" "B" (.int 0) ∧
  ∃ (t : Addr) (kb : ClassId), n0 ≤ t ∧ h.size ≤ t ∧ ¬ t = x ∧ RoadKit.Fld Z h' x ST "value" "[B" (.ref t) ∧ RoadKit.Arv Z h' t kb .byte N (bs.map Value.int) (.int 0)
/-- **new String(chars) AT A CALL, FOR THE WRITER**: a char[] of n known ints, each 0 to 255 -/
theorem backV {p : Program} {l : Launch} {e : Env} {R : Room} {s : State} {args : Array Value} {below : List Frame} {len W : Nat} {Z : State} {a0 : Array Value} {h : Heap} (hZ : Z.Warmed39 s.vm) (hw : ∀ d ∈ words, d.before a0 Z = true) {kI : Nat} (wi : (Jvm.Cond.instantiable ST kI).before a0 Z = true)
    {x b : Addr} {kC : ClassId} {cs bs : List Int32} {d v0 c0 : Value} {z N : Int32} {n n0 : Nat} (hx0 : n0 ≤ x) (hh0 : n0 ≤ h.size) (E : RoadKit.Exa Z h x ST) (V : RoadKit.Fld Z h x ST "value" "[B" v0) (C : RoadKit.Fld Z h x ST "coder" "B" c0) (K : RoadKit.Arv Z h b kC .char N (cs.map Value.int) d) (S : RoadKit.Sta Z h ST "COMPACT_STRINGS" "Z" (.int z)) (hz : ¬ z = 0)
    (hn : cs.length = n) (hN : N = Int32.ofNat n) (l0 : 0 < n) (l2 : n ≤ 4000) (hp : ∀ c ∈ cs, ¬ c < 0 ∧ ¬ (255 : Int32) < c) (hb : bs = cs.map (fun c => c.toInt8.toInt32)) (hfr : 4 ≤ R.frames) (hlo : W + 65 ≤ R.locals) :
    Back l R p e below s args (⟨"java/lang/String", "<init>", "([C)V"⟩ : MethodName) len W (fun P a => a = #[.ref x, .ref b] ∧ P.U.heap = h ∧ P.cells + 1 ≤ R.cells ∧ P.slots + n ≤ R.slots)
      (fun P _ v B => ∃ L, QV Z x N bs h n0 v B.U.heap L ∧ B.locs = P.locs ++ L ∧ B.cells = P.cells + 1 ∧ B.slots = P.slots + n) := by
  subst hn hN hb
  refine Back.mono (backArv hZ hw wi E V C K S hz (n32 (by omega)) l0 (by omega) (fun c hc => (hp c hc).2) hfr hlo) (fun P a hp => hp) (fun P a v B hp hq => ?_)
  obtain ⟨L, ⟨q1, q2, q3, q4, q5, q6, q7, ⟨kb, v1, v2⟩, q9⟩, hl, hc, hs⟩ := hq
  exact ⟨L, ⟨q1, fun y hy => by rw [q2 y hy]; exact hx0, q3, q5, q7, h.size, kb, hh0, Nat.le_refl _, Nat.ne_of_gt E.lt, q6, by rw [List.map_map]; exact v2⟩, hl, hc, hs⟩
end StrChars.Road
namespace StrChars
open Jvm Sem ClassFile Op Lib Jvm.Stand Jvm.Free.XT Jvm.Free.ALB Jvm.Free.JM Jvm.Free
open Jvm.Lib.Cold (StaticIs)
def hi8 (x : Int32) : Int32 := lo8 (x >>> ((8 : Int32) &&& 31))
/-- what StringUTF16.getChar makes of two bytes -/
def pairCh (u v : Int32) : Int32 := (((u &&& 255) <<< ((0 : Int32) &&& 31)) ||| ((v &&& 255) <<< ((8 : Int32) &&& 31))).toUInt32.toUInt16.toUInt32.toInt32
theorem shr0 (c : Int32) : c >>> ((0 : Int32) &&& 31) = c := by
  have e : ((0 : Int32) &&& 31) = 0 := by decide
  rw [e]
  apply Int32.toBitVec_inj.mp
  rw [Int32.toBitVec_shiftRight]
  have e1 : ((0 : Int32).toBitVec.smod 32) = 0#32 := by decide
  rw [e1, BitVec.sshiftRight_eq']
  exact BitVec.sshiftRight_zero
theorem lo8_and (x : Int32) : (lo8 x &&& 255).toBitVec.toNat = x.toBitVec.toNat % 256 := by
  have h : (lo8 x).toBitVec = (x.toBitVec.signExtend 8).signExtend 32 := by rw [lo8, Int8.toBitVec_toInt32, Int32.toBitVec_toInt8]
  rw [Int32.toBitVec_and, BitVec.toNat_and, h]
  have e : ((x.toBitVec.signExtend 8).signExtend 32).toNat % 256 = x.toBitVec.toNat % 256 := by
    rw [BitVec.toNat_signExtend]
    have hlt := x.toBitVec.isLt
    simp only [BitVec.toNat_setWidth, BitVec.toNat_signExtend]
    split <;> split <;> omega
  rw [← e]
  exact Nat.and_two_pow_sub_one_eq_mod _ 8
theorem pair_says {c : Int32} (h0 : ¬ c < 0) (h1 : ¬ 65535 < c) : pairCh (lo8 c) (hi8 c) = c := by
  rw [Int32.lt_iff_toInt_lt] at h0 h1
  have e0 : (0 : Int32).toInt = 0 := rfl
  have e1 : (65535 : Int32).toInt = 65535 := rfl
  have hc : c.toInt = c.toBitVec.toNat := by
    have := c.toBitVec.isLt
    have e : c.toInt = c.toBitVec.toInt := rfl
    rw [e] at h0 h1
    rw [e]
    rw [BitVec.toInt_eq_toNat_cond] at h0 h1 ⊢
    split at h0 <;> split <;> omega
  have hn : c.toBitVec.toNat < 65536 := by omega
  have a1 := lo8_and c
  have a2 : (hi8 c &&& 255).toBitVec.toNat = c.toBitVec.toNat / 256 := by
    rw [hi8, lo8_and]
    have e : ((8 : Int32) &&& 31) = 8 := by decide
    rw [e, Int32.toBitVec_shiftRight]
    have e2 : ((8 : Int32).toBitVec.smod 32) = 8#32 := by decide
    rw [e2, BitVec.sshiftRight_eq', BitVec.toNat_sshiftRight_of_msb_false (by rw [BitVec.msb_eq_false_iff_two_mul_lt]; omega)]
    show c.toBitVec.toNat >>> 8 % 256 = _
    rw [Nat.shiftRight_eq_div_pow]
    omega
  unfold pairCh
  apply Int32.toBitVec_inj.mp
  apply BitVec.eq_of_toNat_eq
  have f0 : ((0 : Int32) &&& 31) = 0 := by decide
  have f8 : ((8 : Int32) &&& 31) = 8 := by decide
  rw [f0, f8]
  have g : (((lo8 c &&& 255) <<< (0 : Int32)) ||| ((hi8 c &&& 255) <<< (8 : Int32))).toBitVec.toNat = c.toBitVec.toNat := by
    rw [Int32.toBitVec_or, Int32.toBitVec_shiftLeft, Int32.toBitVec_shiftLeft]
    have s0 : ((0 : Int32).toBitVec.smod 32) = 0#32 := by decide
    have s8 : ((8 : Int32).toBitVec.smod 32) = 8#32 := by decide
    rw [s0, s8, BitVec.toNat_or]
    simp only [BitVec.shiftLeft_eq', BitVec.toNat_shiftLeft, a1, a2]
    show (c.toBitVec.toNat % 256) <<< 0 % 2 ^ 32 ||| (c.toBitVec.toNat / 256) <<< 8 % 2 ^ 32 = _
    rw [Nat.shiftLeft_zero, Nat.mod_eq_of_lt (show c.toBitVec.toNat % 256 < 2 ^ 32 by omega), Nat.mod_eq_of_lt (show (c.toBitVec.toNat / 256) <<< 8 < 2 ^ 32 by rw [Nat.shiftLeft_eq]; omega), Nat.or_comm, ← Nat.shiftLeft_add_eq_or_of_lt (by omega), Nat.shiftLeft_eq]
    omega
  show BitVec.toNat (((((lo8 c &&& 255) <<< (0 : Int32)) ||| ((hi8 c &&& 255) <<< (8 : Int32))).toBitVec.setWidth 16).setWidth 32) = _
  rw [BitVec.toNat_setWidth, BitVec.toNat_setWidth, g]
  omega
end StrChars
namespace StrChars
open Jvm Sem ClassFile Op Lib Jvm.Stand Jvm.Free.XT Jvm.Free.ALB Jvm.Free.JM Jvm.Free
open Jvm.Lib.Cold (StaticIs)
theorem shr1 {n : Nat} (h : 2 * n < 2 ^ 31) : Int32.ofNat (2 * n) >>> ((1 : Int32) &&& 31) = Int32.ofNat n := by
  have e : ((1 : Int32) &&& 31) = 1 := by decide
  rw [e]
  apply Int32.toBitVec_inj.mp
  rw [Int32.toBitVec_shiftRight]
  have e1 : ((1 : Int32).toBitVec.smod 32) = 1#32 := by decide
  have hm : (BitVec.ofNat 32 (2 * n)).toNat = 2 * n := by rw [BitVec.toNat_ofNat, Nat.mod_eq_of_lt (by omega)]
  rw [e1, BitVec.sshiftRight_eq']
  apply BitVec.eq_of_toNat_eq
  show ((BitVec.ofNat 32 (2 * n)).sshiftRight 1).toNat = (BitVec.ofNat 32 n).toNat
  rw [BitVec.toNat_sshiftRight_of_msb_false (by rw [BitVec.msb_eq_false_iff_two_mul_lt, hm]; omega), hm, BitVec.toNat_ofNat, Nat.shiftRight_eq_div_pow]
  omega
/-- the array's cell V codes the n chars f 0 .. f (n - 1) by the coder cd, as the JDK does: coder 1 just where some char is above 255 -/
def Cod (cd : Int32) (n : Nat) (f : Nat → Int32) (V : Cell) : Prop := (cd = 0 ∧ V.slots.size = n ∧ ∀ j, j < n → V.slots[j]? = some (.int (lo8 (f j))) ∧ ¬ 255 < f j) ∨ (cd = 1 ∧ V.slots.size = 2 * n ∧ (∀ j, j < n → V.slots[2 * j]? = some (.int (lo8 (f j))) ∧ V.slots[2 * j + 1]? = some (.int (hi8 (f j)))) ∧ ∃ j, j < n ∧ 255 < f j)
theorem Cod.cd {cd : Int32} {n : Nat} {f : Nat → Int32} {V : Cell} (h : Cod cd n f V) : cd = 0 ∨ cd = 1 := h.imp (fun q => q.1) fun q => q.1
theorem Cod.len {cd : Int32} {n : Nat} {f : Nat → Int32} {V : Cell} (h : Cod cd n f V) (hs : V.slots.size < 2 ^ 31) : Int32.ofNat V.slots.size >>> (cd &&& 31) = Int32.ofNat n := by
  rcases h with ⟨rfl, h, -⟩ | ⟨rfl, h, -⟩
  · rw [shr0, h]
  · rw [h, shr1 (by omega)]
/-- **x is a String of the n chars f 0 .. f (n - 1)**, Latin-1 or UTF-16; its array at t has the cell V -/
def Txt (x t : Addr) (V : Cell) (cd : Int32) (n : Nat) (f : Nat → Int32) (U : State) : Prop := Exact "java/lang/String" x U ∧ Has x "java/lang/String" "value" "[B" (.ref t) U ∧ Has x "java/lang/String" "coder" "B" (.int cd) U ∧ XT.Arr .byte t V U ∧ Cod cd n f V ∧ ∀ j, j < n → ¬ f j < 0 ∧ ¬ 65535 < f j
theorem Txt.mv {x t : Addr} {V : Cell} {cd : Int32} {n : Nat} {f : Nat → Int32} {U U' : State} (h : Txt x t V cd n f U) (hal : U.vm.Alike U'.vm) (hh : U'.heap = U.heap) : Txt x t V cd n f U' := ⟨h.1.mv hal hh, h.2.1.mv hal hh, h.2.2.1.mv hal hh, h.2.2.2.1.mv hal hh, h.2.2.2.2⟩
namespace Cdr
def yN : MethodName := ⟨"java/lang/String", "coder", "()B"⟩
abbrev yB : ByteArray := jdk_42_method_152_code
theorem d0 : decode yB 0 = .ok (.getstatic 38, 3) := by decide +kernel
theorem d3 : decode yB 3 = .ok (.ifCond (.eq) 10, 3) := by decide +kernel
theorem d6 : decode yB 6 = .ok (.aload_n 0, 1) := by decide +kernel
theorem d7 : decode yB 7 = .ok (.getfield 15, 3) := by decide +kernel
theorem d10 : decode yB 10 = .ok (.goto 4, 3) := by decide +kernel
theorem d14 : decode yB 14 = .ok (.ireturn, 1) := by decide +kernel
def site : List Cond := [.fieldLink "java/lang/String" 38 "java/lang/String" "COMPACT_STRINGS" "Z", .fieldLink "java/lang/String" 15 "java/lang/String" "coder" "B"]
def tab : Cond := tabOf yN yB 1 (some .byte) site
def P (x : Addr) (cd z : Int32) (args : Array Value) (s : State) : Prop := args = #[.ref x] ∧ Has x "java/lang/String" "coder" "B" (.int cd) s ∧ (cd = 0 ∨ cd = 1) ∧ StaticIs s "java/lang/String" "COMPACT_STRINGS" "Z" (.int z) ∧ ¬ z = 0
def E (cd : Int32) (r : Option Value) (s u : State) : Prop := XT.PureE (some (.int cd)) r s u
theorem law (l : Launch) (x : Addr) (cd z : Int32) : Law l yN 1 0 0 0 yB 1 (some .byte) site (P x cd z) (E cd) [] 0 0 := by
  refine Law.of_walk (plainFor_of_name (by decide +kernel)) (by decide +kernel) (by decide +kernel) (by decide) (fun _ _ h => by rw [h.1]; rfl) (fun _ U U' hal hh h => ⟨h.1, h.2.1.mv hal hh, h.2.2.1, h.2.2.2.1.there hal hh, h.2.2.2.2⟩) (fun r U U' V V' h1 hal h2 h => XT.PureE.mv r U U' V V' h1 hal h2 h) ?_
  intro p e s m args below meth c s₁ X0 hexec hbytes hml hret hlk hnm hown hh0 W hP
  obtain ⟨rfl, hx, hc, s1, hz⟩ := hP
  have c1 : Steps p.tables e below (s₁.setTop (entryFrame m #[.ref x] 1)) (s₁.setTop (mkF m 0 #[.val (.ref x)] [])) := entry rfl
  obtain ⟨T2, X2, q2, st2⟩ := X0.sget hexec hown (wk W (.fieldLink "java/lang/String" 38 "java/lang/String" "COMPACT_STRINGS" "Z")) s1 (fun _ _ h => by rw [hh0]; exact h) (g := (mkF m 0 #[.val (.ref x)] [])) rfl (hb hbytes d0)
  have hh2 := q2.trans hh0
  have c3 : Steps p.tables e below (s₁.setTop (entryFrame m #[.ref x] 1)) (T2.setTop (mkF m 7 #[.val (.ref x)] [.ref x])) := (c1.trans (st2 _ (Steps.refl _))).trans (by
    refine XS.ifNo X2.here hexec rfl (hb hbytes d3) rfl (i0_eq_f hz) ?_
    refine XS.aloadN X2.here hexec rfl (hb hbytes d6) rfl rfl ?_
    exact Steps.refl _)
  obtain ⟨T4, X4, q4, st4⟩ := X2.hget hexec hown (wk W (.fieldLink "java/lang/String" 15 "java/lang/String" "coder" "B")) (hx.mv X2.warmed.alike hh2) (g := (mkF m 7 #[.val (.ref x)] [.ref x])) rfl (rest := []) rfl (hb hbytes d7)
  have c5 : Steps p.tables e below (s₁.setTop (entryFrame m #[.ref x] 1)) (T4.setTop (mkF m 14 #[.val (.ref x)] [.int cd])) := (c3.trans (st4 _ (Steps.refl _))).trans (by
    refine XS.goto X4.here hexec rfl (pc0 := 10) rfl (hb hbytes d10) (by decide) rfl ?_
    exact Steps.refl _)
  exact ⟨T4, some (.int cd), _, _, _, X4, rfl, rfl, rfl, (fun h => by cases h), ⟨rfl, q4.trans hh2⟩, fun fs hl => c5.trans (X4.ireturnOut hexec hret (by rcases hc with rfl | rfl <;> rfl) (Or.inr (Or.inr (Or.inl rfl))) (hb hbytes d14) hl)⟩
end Cdr
namespace Len
def yN : MethodName := ⟨"java/lang/String", "length", "()I"⟩
abbrev yB : ByteArray := jdk_42_method_54_code
theorem d0 : decode yB 0 = .ok (.aload_n 0, 1) := by decide +kernel
theorem d1 : decode yB 1 = .ok (.getfield 9, 3) := by decide +kernel
theorem d4 : decode yB 4 = .ok (.arraylength, 1) := by decide +kernel
theorem d5 : decode yB 5 = .ok (.aload_n 0, 1) := by decide +kernel
theorem d6 : decode yB 6 = .ok (.invokevirtual 335, 3) := by decide +kernel
theorem d9 : decode yB 9 = .ok (.ishr, 1) := by decide +kernel
theorem d10 : decode yB 10 = .ok (.ireturn, 1) := by decide +kernel
def site : List Cond := [.fieldLink "java/lang/String" 9 "java/lang/String" "value" "[B", Cdr.tab] ++ virtW "java/lang/String" 335 "java/lang/String" Cdr.yN Cdr.yN
def tab : Cond := tabOf yN yB 1 (some .int) site
def P (x t : Addr) (V : Cell) (cd : Int32) (n : Nat) (f : Nat → Int32) (z : Int32) (args : Array Value) (s : State) : Prop := args = #[.ref x] ∧ Txt x t V cd n f s ∧ StaticIs s "java/lang/String" "COMPACT_STRINGS" "Z" (.int z) ∧ ¬ z = 0
def E (n : Nat) (r : Option Value) (s u : State) : Prop := XT.PureE (some (.int (Int32.ofNat n))) r s u
/-- length() of a String of n chars, in either coding -/
theorem law (l : Launch) (x t : Addr) (V : Cell) (cd : Int32) (n : Nat) (f : Nat → Int32) (z : Int32) : Law l yN 1 0 1 13 yB 1 (some .int) site (P x t V cd n f z) (E n) [] 0 0 := by
  refine Law.of_walk (plainFor_of_name (by decide +kernel)) (by decide +kernel) (by decide +kernel) (by decide) (fun _ _ h => by rw [h.1]; rfl) (fun _ U U' hal hh h => ⟨h.1, h.2.1.mv hal hh, h.2.2.1.there hal hh, h.2.2.2⟩) (fun r U U' V V' h1 hal h2 h => XT.PureE.mv r U U' V V' h1 hal h2 h) ?_
  intro p e s m args below meth c s₁ X0 hexec hbytes hml hret hlk hnm hown hh0 W hP
  obtain ⟨rfl, hx, s1, hz⟩ := hP
  have v31 := hx.2.2.2.1.2.2.2
  have c1 : Steps p.tables e below (s₁.setTop (entryFrame m #[.ref x] 1)) (s₁.setTop (mkF m 1 #[.val (.ref x)] [.ref x])) := Steps.trans (entry rfl) (by
    show Steps p.tables e below (s₁.setTop (mkF m 0 #[.val (.ref x)] [])) _
    refine XS.aloadN X0.here hexec rfl (hb hbytes d0) rfl rfl ?_
    exact Steps.refl _)
  obtain ⟨T2, X2, q2, st2⟩ := X0.hget hexec hown (wk W (.fieldLink "java/lang/String" 9 "java/lang/String" "value" "[B")) (hx.mv X0.warmed.alike hh0).2.1 (g := (mkF m 1 #[.val (.ref x)] [.ref x])) rfl (rest := []) rfl (hb hbytes d1)
  have hh2 := q2.trans hh0
  have hx2 := hx.mv X2.warmed.alike hh2
  have c3 : Steps p.tables e below (s₁.setTop (entryFrame m #[.ref x] 1)) (T2.setTop (mkF m 6 #[.val (.ref x)] [.ref x, .int (Int32.ofNat V.slots.size)])) := (c1.trans (st2 _ (Steps.refl _))).trans (by
    refine X2.alen hexec hx2.2.2.2.1 rfl rfl (hb hbytes d4) ?_
    refine XS.aloadN X2.here hexec rfl (hb hbytes d5) rfl rfl ?_
    exact Steps.refl _)
  obtain ⟨v4, T4, X4, E4, g4⟩ := X2.callV hexec (Cdr.law l x cd z) hown (wks W (virtW "java/lang/String" 335 "java/lang/String" Cdr.yN Cdr.yN)) rfl (by decide) (wk W Cdr.tab) (W := 1) (Nat.le_of_ble_eq_true rfl) (Nat.le_of_ble_eq_true rfl) (Nat.le_refl _) (Nat.le_refl _) (hx2.1.fc X2.warmed.alike) hx2.1.is (g := (mkF m 6 #[.val (.ref x)] [.ref x, .int (Int32.ofNat V.slots.size)])) rfl (by rw [hml]; rfl) c3 (argsL := []) (rest := [.int (Int32.ofNat V.slots.size)]) rfl rfl (by show 2 * 0 + (1 + 0) ≤ _; decide) (hb hbytes d6) (⟨rfl, hx2.2.2.1, hx.2.2.2.2.1.cd, s1.there X2.warmed.alike hh2, hz⟩)
  obtain ⟨rfl, q4⟩ := E4
  have c5 : Steps p.tables e below (s₁.setTop (entryFrame m #[.ref x] 1)) (T4.setTop (mkF m 10 #[.val (.ref x)] [.int (Int32.ofNat V.slots.size >>> (cd &&& 31))])) := Steps.trans g4 (by
    refine ishr X4.here hexec rfl (hb hbytes d9) rfl ?_
    exact Steps.refl _)
  rw [hx.2.2.2.2.1.len v31] at c5
  exact ⟨T4, some (.int (Int32.ofNat n)), _, _, _, X4, rfl, rfl, rfl, (fun h => by cases h), ⟨rfl, q4.trans hh2⟩, fun fs hl => c5.trans (X4.ireturnOut hexec hret rfl (Or.inl rfl) (hb hbytes d10) hl)⟩
theorem pays {l : Launch} {R : Room} {p : Program} {e : Env} {below : List Frame} {s : State} {sargs : Array Value} {len W : Nat} (x t : Addr) (V : Cell) (cd : Int32) (n : Nat) (f : Nat → Int32) (z : Int32) (htab : tab.before sargs s = true) (hfr : 2 ≤ R.frames) (hlo : W + 25 ≤ R.locals) :
    Back l R p e below s sargs yN len W (fun A₁ a₁ => A₁.cells + 0 ≤ R.cells ∧ A₁.slots + 0 ≤ R.slots ∧ P x t V cd n f z a₁ A₁.U) (fun A₁ _ v₁ B₁ => E n v₁ A₁.U B₁.U ∧ B₁.locs = A₁.locs ++ [] ∧ B₁.cells = A₁.cells + 0 ∧ B₁.slots = A₁.slots + 0) :=
  (law l x t V cd n f z).pays htab hfr (by omega)
end Len
end StrChars
namespace StrChars.Road
open Jvm Sem ClassFile Op Lib Jvm.Stand Jvm.Free Jvm.Free.XT
open Jvm.Lib.Cold (StaticIs)
theorem consq {a : Array Value} {s : State} {c : Jvm.Cond} {L : List Jvm.Cond} (h0 : c.before a s = true) (h : ∀ w ∈ L, w.before a s = true) : ∀ w ∈ c :: L, w.before a s = true := fun w hw => (List.mem_cons.mp hw).elim (fun e => e ▸ h0) (h w)
/-- the words of String.length(), either coding -/
abbrev wordsLen : List Jvm.Cond := [.code Len.yN Len.yB 1 (some .int), .initialized ST, .fieldLink ST 9 ST "value" "[B", .fieldLink ST 38 ST "COMPACT_STRINGS" "Z", .fieldLink ST 15 ST "coder" "B", .code Cdr.yN Cdr.yB 1 (some .byte), .methodLink ST 335 Cdr.yN, .declares Cdr.yN, .selects ST Cdr.yN Cdr.yN, .instanceMethod Cdr.yN]
theorem tabLen_of {a : Array Value} {s : State} (h : ∀ w ∈ wordsLen, w.before a s = true) : Len.tab.before a s = true := by
  have hc : Cdr.tab.before a s = true := unparts (wk h (.code Cdr.yN Cdr.yB 1 (some .byte))) (wks h (.initialized Cdr.yN.cls :: Cdr.site))
  have q := consq hc h
  exact unparts (wk q (.code Len.yN Len.yB 1 (some .int))) (wks q (.initialized Len.yN.cls :: Len.site))
theorem movedLen {Z s : State} {a0 args : Array Value} (hZ : Z.Warmed39 s.vm) (hw : ∀ d ∈ wordsLen, d.before a0 Z = true) : ∀ d ∈ wordsLen, d.before args s = true := fun d hd => by
  have q := hw d hd
  have t : ∀ d ∈ wordsLen, d = .arrayClass .byte ∨ (d.onTables && d.keepsFace) = true := by decide +kernel
  rcases t d hd with rfl | t
  · exact RoadKit.mvA hZ q
  · exact RoadKit.mv hZ q t
/-- the bytes of the chars cs, low before high -/
def wideBytes : List Int32 → List Value
  | [] => []
  | c :: cs => .int (lo8 c) :: .int (hi8 c) :: wideBytes cs
theorem wide_lo (d : Value) : ∀ (cs : List Int32) (j : Nat), j < cs.length → (wideBytes cs).getD (2 * j) d = .int (lo8 (cs.getD j 0))
  | [], j, h => absurd h (Nat.not_lt_zero j)
  | c :: cs, 0, _ => rfl
  | c :: cs, j + 1, h => by
    have q := wide_lo d cs j (by simpa using h)
    rw [show 2 * (j + 1) = 2 * j + 1 + 1 from by omega]
    simpa [wideBytes] using q
theorem wide_hi (d : Value) : ∀ (cs : List Int32) (j : Nat), j < cs.length → (wideBytes cs).getD (2 * j + 1) d = .int (hi8 (cs.getD j 0))
  | [], j, h => absurd h (Nat.not_lt_zero j)
  | c :: cs, 0, _ => rfl
  | c :: cs, j + 1, h => by
    have q := wide_hi d cs j (by simpa using h)
    rw [show 2 * (j + 1) + 1 = 2 * j + 1 + 1 + 1 from by omega]
    simpa [wideBytes] using q
theorem low_at (d : Value) (cs : List Int32) (j : Nat) (h : j < cs.length) : (cs.map fun c => Value.int (lo8 c)).getD j d = .int (lo8 (cs.getD j 0)) := by
  simp [List.getD_eq_getElem?_getD, h]
/-- an array of N2 bytes vs codes the chars cs by the coder cd -/
def CodA (cs : List Int32) (cd N2 : Int32) (vs : List Value) : Prop := (cd = 0 ∧ N2 = Int32.ofNat cs.length ∧ vs = (cs.map fun c => Value.int (lo8 c)) ∧ ∀ c ∈ cs, ¬ 255 < c) ∨ (cd = 1 ∧ N2 = Int32.ofNat (2 * cs.length) ∧ vs = wideBytes cs ∧ ∃ c ∈ cs, 255 < c)
theorem CodA.cod {cs : List Int32} {cd N2 : Int32} {vs : List Value} {V : Cell} (h : CodA cs cd N2 vs) (hn : 2 * cs.length < 2 ^ 31) (hs : V.slots.size = N2.toNatClampNeg) (hv : RoadKit.Has V vs (.int 0)) : Cod cd cs.length (fun j => cs.getD j 0) V := by
  rcases h with ⟨rfl, rfl, rfl, h⟩ | ⟨rfl, rfl, rfl, c, hc, hw⟩
  · rw [n32 (by omega)] at hs
    exact Or.inl ⟨rfl, hs, fun j hj => ⟨by rw [hv j (by omega), low_at _ _ _ hj], by
      have e : cs.getD j 0 = cs[j] := by simp [List.getD_eq_getElem?_getD, hj]
      show ¬ 255 < cs.getD j 0
      rw [e]; exact h _ (List.getElem_mem _)⟩⟩
  · rw [n32 (by omega)] at hs
    obtain ⟨j, hj, rfl⟩ := List.getElem_of_mem hc
    exact Or.inr ⟨rfl, hs, fun j hj => ⟨by rw [hv _ (by omega), wide_lo _ _ _ hj], by rw [hv _ (by omega), wide_hi _ _ _ hj]⟩, j, hj, by
      have e : cs.getD j 0 = cs[j] := by simp [List.getD_eq_getElem?_getD, hj]
      show 255 < cs.getD j 0
      rw [e]; exact hw⟩
/-- an object of exactly java/lang/String, its two fields found: as the laws ask it -/
theorem strObj {Z U : State} {a0 : Array Value} {kI : Nat} (wi : (Jvm.Cond.instantiable ST kI).before a0 Z = true) (al : Z.vm.Alike U.vm) {x : Addr} {v0 c0 : Value} (E : RoadKit.Exa Z U.heap x ST) (V : RoadKit.Fld Z U.heap x ST "value" "[B" v0) (C : RoadKit.Fld Z U.heap x ST "coder" "B" c0) :
    ∃ (D : Cell) (fV fC : Field), Blank ST x D U ∧ Found ST "value" "[B" fV U ∧ Found ST "coder" "B" fC U ∧ D.slots[fV.slot]? = some v0 ∧ D.slots[fC.slot]? = some c0 ∧ RoadKit.slotOf Z ST "value" "[B" = fV.slot ∧ RoadKit.slotOf Z ST "coder" "B" = fC.slot := by
  obtain ⟨D, cfV, kV, iV, fV, hD, gV, stV, knV, obV, asV, slV⟩ := V
  obtain ⟨D', cfC, kC, iC, fC, hD', gC, stC, -, -, asC, slC⟩ := C
  cases hD.symm.trans hD'
  obtain ⟨D2, kD, e1, e2, e3, e4, e5⟩ := E
  cases hD.symm.trans e1
  obtain ⟨c2, k2, i1, i2, i3, -⟩ := Cond.instantiable_spec wi
  cases e2.symm.trans i1
  cases e3.symm.trans i2
  obtain ⟨kU, u1, u2⟩ := al.2.2 _ _ e3
  exact ⟨D, fV, fC, ⟨hD, ⟨knV, fun q hq => by rw [hq] at obV; cases obV⟩, by rw [al.findClass]; exact e2, kU, u1, by rw [u2]; exact i3, by rw [u2]; exact e5 i3⟩, ⟨SBG.found_only al ⟨cfV, kV, iV, gV⟩, stV⟩, ⟨SBG.found_only al ⟨cfC, kC, iC, gC⟩, stC⟩, slV, slC, by simp [RoadKit.slotOf, gV], by simp [RoadKit.slotOf, gC]⟩
theorem sta_is {Z U : State} (al : Z.vm.Alike U.vm) {C n d : String} {v : Value} (S : RoadKit.Sta Z U.heap C n d v) : StaticIs U C n d v := by
  obtain ⟨cfS, iS, kS, fS, st, cS, t1, t2, t3, t4, t5, t6, t7⟩ := S
  exact StaticIs.there (s := { Z with heap := U.heap }) ⟨cfS, iS, kS, fS, st, cS, t1, t2, t3, t4, t5, (fun q => by rw [q] at t6; cases t6), t7⟩ al rfl
/-- **length() OF SUCH A STRING** -/
theorem lenW {p : Program} {l : Launch} {e : Env} {R : Room} {s : State} {args : Array Value} {below : List Frame} {len W : Nat} {Z : State} {a0 : Array Value} {h : Heap} (hZ : Z.Warmed39 s.vm) (hw : ∀ d ∈ wordsLen, d.before a0 Z = true) {kI : Nat} (wi : (Jvm.Cond.instantiable ST kI).before a0 Z = true)
    {x t : Addr} {kb : ClassId} {cs : List Int32} {cd N2 z : Int32} {vs : List Value} (E : RoadKit.Exa Z h x ST) (V : RoadKit.Fld Z h x ST "value" "[B" (.ref t)) (C : RoadKit.Fld Z h x ST "coder" "B" (.int cd)) (K : RoadKit.Arv Z h t kb .byte N2 vs (.int 0)) (hc : CodA cs cd N2 vs) (hb : ∀ c ∈ cs, ¬ c < 0 ∧ ¬ (65535 : Int32) < c)
    (S : RoadKit.Sta Z h ST "COMPACT_STRINGS" "Z" (.int z)) (hz : ¬ z = 0) (l2 : cs.length ≤ 4000) (hfr : 2 ≤ R.frames) (hlo : W + 25 ≤ R.locals) :
    Back l R p e below s args (⟨"java/lang/String", "length", "()I"⟩ : MethodName) len W (fun P a => a = #[.ref x] ∧ P.U.heap = h ∧ P.cells + 0 ≤ R.cells ∧ P.slots + 0 ≤ R.slots)
      (fun P _ v B => ∃ L, (v = some (.int (Int32.ofNat cs.length)) ∧ L = [] ∧ B.U.heap = h) ∧ B.locs = P.locs ++ L ∧ B.cells = P.cells + 0 ∧ B.slots = P.slots + 0) := by
  obtain ⟨A, K1, K2, K3, K4, K5, K6⟩ := K
  have hcod := hc.cod (by omega) K3 K5
  intro m meth c P g ig mk a X hg hsize hdg hW hn hp'
  obtain ⟨rfl, rfl, r1, r2⟩ := hp'
  have al : Z.vm.Alike P.U.vm := hZ.alike.trans X.warmed.alike
  obtain ⟨D, fV, fC, hB, F1, F2, g1, g2, -, -⟩ := strObj wi al E V C
  have hx : Txt x t A cd cs.length (fun j => cs.getD j 0) P.U := ⟨⟨_, hB.2.2.1, D, hB.1, rfl, by cases q : D.vm <;> first | rfl | exact absurd q (hB.2.1.2 _)⟩, Has.of hB F1 g1, Has.of hB F2 g2, ⟨K1.1, State.isArrayOf_alike al K1.2.1, K1.2.2, by rcases hcod with ⟨-, q, -⟩ | ⟨-, q, -⟩ <;> omega⟩, hcod, fun j hj => by
    have e : cs.getD j 0 = cs[j] := by simp [List.getD_eq_getElem?_getD, hj]
    show ¬ cs.getD j 0 < 0 ∧ ¬ 65535 < cs.getD j 0
    rw [e]; exact hb _ (List.getElem_mem _)⟩
  obtain ⟨v, B, X', ⟨⟨hv, hh⟩, hl, hk, hs⟩, st⟩ := Len.pays x t A cd cs.length (fun j => cs.getD j 0) z (tabLen_of (movedLen hZ hw)) hfr hlo m meth c P g ig mk _ X hg hsize hdg hW hn ⟨r1, r2, rfl, hx, sta_is al S, hz⟩
  exact ⟨v, B, X', ⟨[], ⟨hv, rfl, hh⟩, hl, hk, hs⟩, st⟩
end StrChars.Road
namespace StrChars
open Jvm Sem ClassFile Op Lib Jvm.Stand Jvm.Free.XT Jvm.Free.ALB Jvm.Free.JM Jvm.Free
open Jvm.Lib.Cold (StaticIs)
/-- what place i of a byte[]'s cell holds -/
def yv (A : Cell) (i : Nat) : Int32 := match A.slots[i]? with | some (.int x) => x | _ => 0
theorem yv_get {a : Addr} {A : Cell} {U : State} (h : XT.Arr .byte a A U) (ht : Typed .byte A) {i : Nat} (hi : i < A.slots.size) : A.slots[i]? = some (.int (yv A i)) := by
  have e := Array.getElem?_eq_getElem hi
  have f := ht i _ e
  unfold yv; rw [e]
  generalize A.slots[i] = v at f
  cases v <;> simp [fits] at f ⊢
/-- the two arrays are equal, place for place -/
def EqC (A B : Cell) : Prop := A.slots.size = B.slots.size ∧ ∀ i, i < A.slots.size → yv A i = yv B i
/-- a boolean that says whether p -/
def Says01 (q : Prop) (r : Option Value) (s u : State) : Prop := ∃ v : Int32, r = some (.int v) ∧ u.heap = s.heap ∧ ((v = 1 ∧ q) ∨ (v = 0 ∧ ¬ q))
theorem Says01.mv {q : Prop} : ∀ r (U U' V V' : State), U'.heap = U.heap → V.vm.Alike V'.vm → V'.heap = V.heap → Says01 q r U V → Says01 q r U' V' :=
  fun r U U' V V' h1 _ h2 ⟨v, a, b, c⟩ => ⟨v, a, by rw [h1, h2]; exact b, c⟩
namespace LEq
def yN : MethodName := ⟨"java/lang/StringLatin1", "equals", "([B[B)Z"⟩
abbrev yB : ByteArray := jdk_43_method_13_code
theorem d0 : decode yB 0 = .ok (.aload_n 0, 1) := by decide +kernel
theorem d1 : decode yB 1 = .ok (.arraylength, 1) := by decide +kernel
theorem d2 : decode yB 2 = .ok (.aload_n 1, 1) := by decide +kernel
theorem d3 : decode yB 3 = .ok (.arraylength, 1) := by decide +kernel
theorem d4 : decode yB 4 = .ok (.if_icmp (.ne) 30, 3) := by decide +kernel
theorem d7 : decode yB 7 = .ok (.iconst 0, 1) := by decide +kernel
theorem d8 : decode yB 8 = .ok (.istore_n 2, 1) := by decide +kernel
theorem d9 : decode yB 9 = .ok (.iload_n 2, 1) := by decide +kernel
theorem d10 : decode yB 10 = .ok (.aload_n 0, 1) := by decide +kernel
theorem d11 : decode yB 11 = .ok (.arraylength, 1) := by decide +kernel
theorem d12 : decode yB 12 = .ok (.if_icmp (.ge) 20, 3) := by decide +kernel
theorem d15 : decode yB 15 = .ok (.aload_n 0, 1) := by decide +kernel
theorem d16 : decode yB 16 = .ok (.iload_n 2, 1) := by decide +kernel
theorem d17 : decode yB 17 = .ok (.baload, 1) := by decide +kernel
theorem d18 : decode yB 18 = .ok (.aload_n 1, 1) := by decide +kernel
theorem d19 : decode yB 19 = .ok (.iload_n 2, 1) := by decide +kernel
theorem d20 : decode yB 20 = .ok (.baload, 1) := by decide +kernel
theorem d21 : decode yB 21 = .ok (.if_icmp (.eq) 5, 3) := by decide +kernel
theorem d24 : decode yB 24 = .ok (.iconst 0, 1) := by decide +kernel
theorem d25 : decode yB 25 = .ok (.ireturn, 1) := by decide +kernel
theorem d26 : decode yB 26 = .ok (.iinc 2 1, 3) := by decide +kernel
theorem d29 : decode yB 29 = .ok (.goto (-20), 3) := by decide +kernel
theorem d32 : decode yB 32 = .ok (.iconst 1, 1) := by decide +kernel
theorem d33 : decode yB 33 = .ok (.ireturn, 1) := by decide +kernel
theorem d34 : decode yB 34 = .ok (.iconst 0, 1) := by decide +kernel
theorem d35 : decode yB 35 = .ok (.ireturn, 1) := by decide +kernel
def site : List Cond := []
def tab : Cond := tabOf yN yB 3 (some .boolean) site
def P (a : Addr) (A : Cell) (b : Addr) (B : Cell) (args : Array Value) (s : State) : Prop := args = #[.ref a, .ref b] ∧ XT.Arr .byte a A s ∧ Typed .byte A ∧ XT.Arr .byte b B s ∧ Typed .byte B
/-- whether two byte[] are equal, place for place -/
theorem law (l : Launch) (a : Addr) (A : Cell) (b : Addr) (B : Cell) : Law l yN 2 2 0 0 yB 3 (some .boolean) site (P a A b B) (Says01 (EqC A B)) [] 0 0 := by
  refine Law.of_walk (plainFor_of_name (by decide +kernel)) (by decide +kernel) (by decide +kernel) (by decide) (fun _ _ h => by rw [h.1]; rfl) (fun _ U U' hal hh h => ⟨h.1, h.2.1.mv hal hh, h.2.2.1, h.2.2.2.1.mv hal hh, h.2.2.2.2⟩) (fun r U U' V V' h1 hal h2 h => Says01.mv r U U' V V' h1 hal h2 h) ?_
  intro p e s m args below meth c s₁ X0 hexec hbytes hml hret hlk hnm hown hh0 W hP
  obtain ⟨rfl, hA, tA, hB, tB⟩ := hP
  have a31 := hA.2.2.2
  have b31 := hB.2.2.2
  have hA0 := hA.mv X0.warmed.alike hh0
  have hB0 := hB.mv X0.warmed.alike hh0
  have c1 : Steps p.tables e below (s₁.setTop (entryFrame m #[.ref a, .ref b] 3)) (s₁.setTop (mkF m 0 #[.val (.ref a), .val (.ref b), .unset] [])) := entry rfl
  have c2 : Steps p.tables e below (s₁.setTop (entryFrame m #[.ref a, .ref b] 3)) (s₁.setTop (mkF m 4 #[.val (.ref a), .val (.ref b), .unset] [.int (Int32.ofNat B.slots.size), .int (Int32.ofNat A.slots.size)])) := c1.trans (by
    refine XS.aloadN X0.here hexec rfl (hb hbytes d0) rfl rfl ?_
    refine X0.alen hexec hA0 rfl rfl (hb hbytes d1) ?_
    refine XS.aloadN X0.here hexec rfl (hb hbytes d2) rfl rfl ?_
    refine X0.alen hexec hB0 rfl rfl (hb hbytes d3) ?_
    exact Steps.refl _)
  by_cases hs : A.slots.size = B.slots.size
  · have c3 : Steps p.tables e below (s₁.setTop (entryFrame m #[.ref a, .ref b] 3)) (s₁.setTop (mkF m 9 #[.val (.ref a), .val (.ref b), .val (.int 0)] [])) := c2.trans (by
      refine XS.icmpNo X0.here hexec rfl (hb hbytes d4) rfl (ii_ne_f (by rw [hs])) ?_
      refine iconstV X0.here hexec rfl 0 (hb hbytes d7) (by decide) ?_
      refine XS.istoreN X0.here hexec rfl (hb hbytes d8) rfl rfl ?_
      exact Steps.refl _)
    have loop : ∀ (r i : Nat), i + r = A.slots.size → (∀ j, j < i → yv A j = yv B j) → Steps p.tables e below (s₁.setTop (entryFrame m #[.ref a, .ref b] 3)) (s₁.setTop (mkF m 9 #[.val (.ref a), .val (.ref b), .val (.int (Int32.ofNat i))] [])) → ∃ (pc : Nat) (Ls : Array Slot) (v : Int32), (pc = 25 ∨ pc = 33) ∧ ((v = 1 ∧ EqC A B) ∨ (v = 0 ∧ ¬ EqC A B)) ∧ Steps p.tables e below (s₁.setTop (entryFrame m #[.ref a, .ref b] 3)) (s₁.setTop (mkF m pc Ls [.int v])) := by
      intro r
      induction r with
      | zero =>
        intro i hi he cl
        exact ⟨33, _, 1, Or.inr rfl, Or.inl ⟨rfl, hs, fun j hj => he j (by omega)⟩, cl.trans (by
          refine XS.iloadN X0.here hexec rfl (hb hbytes d9) rfl ?_
          refine XS.aloadN X0.here hexec rfl (hb hbytes d10) rfl rfl ?_
          refine X0.alen hexec hA0 rfl rfl (hb hbytes d11) ?_
          refine XS.icmpYes X0.here hexec rfl (pc0 := 12) rfl (hb hbytes d12) rfl (ii_ge_t (nlt32 (by omega) (by omega))) (by decide) rfl ?_
          refine iconstV X0.here hexec rfl 1 (hb hbytes d32) (by decide) ?_
          exact Steps.refl _)⟩
      | succ r ih =>
        intro i hi he cl
        have c4 : Steps p.tables e below (s₁.setTop (entryFrame m #[.ref a, .ref b] 3)) (s₁.setTop (mkF m 21 #[.val (.ref a), .val (.ref b), .val (.int (Int32.ofNat i))] [.int (yv B i), .int (yv A i)])) := cl.trans (by
          refine XS.iloadN X0.here hexec rfl (hb hbytes d9) rfl ?_
          refine XS.aloadN X0.here hexec rfl (hb hbytes d10) rfl rfl ?_
          refine X0.alen hexec hA0 rfl rfl (hb hbytes d11) ?_
          refine XS.icmpNo X0.here hexec rfl (hb hbytes d12) rfl (ii_ge_f (lt32 (by omega) (by omega))) ?_
          refine XS.aloadN X0.here hexec rfl (hb hbytes d15) rfl rfl ?_
          refine XS.iloadN X0.here hexec rfl (hb hbytes d16) rfl ?_
          refine X0.aget hexec hA0 rfl (yv_get hA tA (i := i) (by omega)) rfl rfl (hb hbytes d17) ?_
          refine XS.aloadN X0.here hexec rfl (hb hbytes d18) rfl rfl ?_
          refine XS.iloadN X0.here hexec rfl (hb hbytes d19) rfl ?_
          refine X0.aget hexec hB0 rfl (yv_get hB tB (i := i) (by omega)) rfl rfl (hb hbytes d20) ?_
          exact Steps.refl _)
        by_cases hv : yv A i = yv B i
        · have c5 : Steps p.tables e below (s₁.setTop (entryFrame m #[.ref a, .ref b] 3)) (s₁.setTop (mkF m 9 #[.val (.ref a), .val (.ref b), .val (.int (Int32.ofNat i + 1))] [])) := c4.trans (by
            refine XS.icmpYes X0.here hexec rfl (pc0 := 21) rfl (hb hbytes d21) rfl (ii_eq_t hv) (by decide) rfl ?_
            refine iincV X0.here hexec rfl 1 (hb hbytes d26) (by decide) rfl rfl ?_
            refine XS.goto X0.here hexec rfl (pc0 := 29) rfl (hb hbytes d29) (by decide) rfl ?_
            exact Steps.refl _)
          rw [succ32] at c5
          exact ih (i + 1) (by omega) (fun j hj => by
            by_cases e : j = i
            · rw [e]; exact hv
            · exact he j (by omega)) c5
        · exact ⟨25, _, 0, Or.inl rfl, Or.inr ⟨rfl, fun q => hv (q.2 i (by omega))⟩, c4.trans (by
            refine XS.icmpNo X0.here hexec rfl (hb hbytes d21) rfl (ii_eq_f hv) ?_
            refine iconstV X0.here hexec rfl 0 (hb hbytes d24) (by decide) ?_
            exact Steps.refl _)⟩
    obtain ⟨pc, Ls, v, hpc, hv, cz⟩ := loop A.slots.size 0 (by omega) (fun j hj => absurd hj (Nat.not_lt_zero j)) c3
    have nv : narrow .boolean (.int v) = .int v := by rcases hv with ⟨rfl, -⟩ | ⟨rfl, -⟩ <;> rfl
    rcases hpc with rfl | rfl
    · exact ⟨s₁, some (.int v), _, _, _, X0, rfl, rfl, rfl, (fun h => by cases h), ⟨v, rfl, hh0, hv⟩, fun fs hl => cz.trans (X0.ireturnOut hexec hret nv (Or.inr (Or.inl rfl)) (hb hbytes d25) hl)⟩
    · exact ⟨s₁, some (.int v), _, _, _, X0, rfl, rfl, rfl, (fun h => by cases h), ⟨v, rfl, hh0, hv⟩, fun fs hl => cz.trans (X0.ireturnOut hexec hret nv (Or.inr (Or.inl rfl)) (hb hbytes d33) hl)⟩
  · have c3 : Steps p.tables e below (s₁.setTop (entryFrame m #[.ref a, .ref b] 3)) (s₁.setTop (mkF m 35 #[.val (.ref a), .val (.ref b), .unset] [.int 0])) := c2.trans (by
      refine XS.icmpYes X0.here hexec rfl (pc0 := 4) rfl (hb hbytes d4) rfl (ii_ne_t (ne32 a31 b31 hs)) (by decide) rfl ?_
      refine iconstV X0.here hexec rfl 0 (hb hbytes d34) (by decide) ?_
      exact Steps.refl _)
    exact ⟨s₁, some (.int 0), _, _, _, X0, rfl, rfl, rfl, (fun h => by cases h), ⟨0, rfl, hh0, Or.inr ⟨rfl, fun q => hs q.1⟩⟩, fun fs hl => c3.trans (X0.ireturnOut hexec hret rfl (Or.inr (Or.inl rfl)) (hb hbytes d35) hl)⟩
end LEq
theorem Cod.ty {cd : Int32} {n : Nat} {f : Nat → Int32} {V : Cell} (h : Cod cd n f V) : Typed .byte V := fun i v hv => by
  have hi : i < V.slots.size := (Array.getElem?_eq_some_iff.mp hv).1
  rcases h with ⟨-, k1, k2⟩ | ⟨-, k1, k2, -⟩
  · rw [(k2 i (by omega)).1] at hv; cases hv; exact fits_lo8 _
  · rcases Nat.mod_two_eq_zero_or_one i with e | e
    · obtain ⟨j, rfl⟩ : ∃ j, i = 2 * j := ⟨i / 2, by omega⟩
      rw [(k2 j (by omega)).1] at hv; cases hv; exact fits_lo8 _
    · obtain ⟨j, rfl⟩ : ∃ j, i = 2 * j + 1 := ⟨i / 2, by omega⟩
      rw [(k2 j (by omega)).2] at hv; cases hv; exact fits_lo8 _
/-- the same text -/
def SameT (n : Nat) (f : Nat → Int32) (k : Nat) (g : Nat → Int32) : Prop := n = k ∧ ∀ j, j < n → f j = g j
theorem lo8_inj {x y : Int32} (h0 : ¬ x < 0) (h1 : ¬ 255 < x) (k0 : ¬ y < 0) (k1 : ¬ 255 < y) (h : lo8 x = lo8 y) : x = y := by
  rw [← lo8_mask h0 h1, ← lo8_mask k0 k1, h]
/-- arrays coded by one coder are equal just where the texts are -/
theorem Cod.eqv {cd : Int32} {n k : Nat} {f g : Nat → Int32} {V V' : Cell} (h : Cod cd n f V) (h' : Cod cd k g V') (hf : ∀ j, j < n → ¬ f j < 0 ∧ ¬ 65535 < f j) (hg : ∀ j, j < k → ¬ g j < 0 ∧ ¬ 65535 < g j) : EqC V V' ↔ SameT n f k g := by
  have yvv : ∀ {W : Cell} {i : Nat} {x : Int32}, W.slots[i]? = some (.int x) → yv W i = x := fun q => by unfold yv; rw [q]
  rcases h with ⟨rfl, k1, k2⟩ | ⟨rfl, k1, k2, -⟩
  · rcases h' with ⟨-, m1, m2⟩ | ⟨e, -⟩
    · constructor
      · rintro ⟨e1, e2⟩
        refine ⟨by omega, fun j hj => ?_⟩
        have q := e2 j (by omega)
        rw [yvv (k2 j hj).1, yvv (m2 j (by omega)).1] at q
        exact lo8_inj (hf j hj).1 (k2 j hj).2 (hg j (by omega)).1 (m2 j (by omega)).2 q
      · rintro ⟨rfl, e2⟩
        refine ⟨by omega, fun j hj => ?_⟩
        rw [yvv (k2 j (by omega)).1, yvv (m2 j (by omega)).1, e2 j (by omega)]
    · exact absurd e (by decide)
  · rcases h' with ⟨e, -⟩ | ⟨-, m1, m2, -⟩
    · exact absurd e (by decide)
    · constructor
      · rintro ⟨e1, e2⟩
        refine ⟨by omega, fun j hj => ?_⟩
        have q1 := e2 (2 * j) (by omega)
        have q2 := e2 (2 * j + 1) (by omega)
        rw [yvv (k2 j hj).1, yvv (m2 j (by omega)).1] at q1
        rw [yvv (k2 j hj).2, yvv (m2 j (by omega)).2] at q2
        rw [← pair_says (hf j hj).1 (hf j hj).2, ← pair_says (hg j (by omega)).1 (hg j (by omega)).2, q1, q2]
      · rintro ⟨rfl, e2⟩
        refine ⟨by omega, fun i hi => ?_⟩
        rcases Nat.mod_two_eq_zero_or_one i with e | e
        · obtain ⟨j, rfl⟩ : ∃ j, i = 2 * j := ⟨i / 2, by omega⟩
          rw [yvv (k2 j (by omega)).1, yvv (m2 j (by omega)).1, e2 j (by omega)]
        · obtain ⟨j, rfl⟩ : ∃ j, i = 2 * j + 1 := ⟨i / 2, by omega⟩
          rw [yvv (k2 j (by omega)).2, yvv (m2 j (by omega)).2, e2 j (by omega)]
/-- two codings differ: so do the texts -/
theorem Cod.dif {cd cd' : Int32} {n k : Nat} {f g : Nat → Int32} {V V' : Cell} (h : Cod cd n f V) (h' : Cod cd' k g V') (hne : ¬ cd = cd') : ¬ SameT n f k g := by
  rintro ⟨rfl, e⟩
  rcases h with ⟨rfl, -, k2⟩ | ⟨rfl, -, -, j, hj, hw⟩
  · rcases h' with ⟨rfl, -⟩ | ⟨-, -, -, j, hj, hw⟩
    · exact hne rfl
    · exact (k2 j hj).2 (by rw [e j hj]; exact hw)
  · rcases h' with ⟨-, -, m2⟩ | ⟨rfl, -⟩
    · exact (m2 j hj).2 (by rw [← e j hj]; exact hw)
    · exact hne rfl
/-- an object of exactly C is an instance of C -/
theorem cinst {p : Program} {l : Launch} {e : Env} {R : Room} {s : State} {m : MethodId} {args : Array Value} {below : List Frame} {meth : Method} {c : Code} {T : State} {locs : List Loc} {cells slots : Nat} (X : Stand p l e R s m args below meth c T locs cells slots) (hexec : p.tables.exec = Jvm.exec) {own C : String} {index : Nat} (hown : s.vm.findClass own = some m.cls) (hlink : (Cond.classLink own index C).before args s = true) {a : Addr} (hE : Exact C a T)
    {g : JFrame} (hg : g.method = m) {rest : List Value} (hstack : g.stack = .ref a :: rest) (hdg : decode c.code g.pc = .ok (.instanceof index, 3)) :
    ∃ T', Stand p l e R s m args below meth c T' locs cells slots ∧ T'.heap = T.heap ∧ ∀ target, Steps p.tables e below (T'.setTop { g with pc := g.pc + 3, stack := .int 1 :: rest }) target → Steps p.tables e below (T.setTop g) target := by
  obtain ⟨cB, h1, D, h2, h3, h4⟩ := hE
  have h1' : s.vm.findClass C = some cB := by rw [← X.warmed.alike.findClass]; exact h1
  obtain ⟨vm', X', st⟩ := X.instanceofYes hexec hown hlink h2 h4 h1' (by rw [h3]; exact Jvm.Free.SB.assignable_self _ _) hg hstack hdg
  exact ⟨_, X', rfl, st⟩
theorem cself {p : Program} {l : Launch} {e : Env} {R : Room} {s : State} {m : MethodId} {args : Array Value} {below : List Frame} {meth : Method} {c : Code} {T : State} {locs : List Loc} {cells slots : Nat} (X : Stand p l e R s m args below meth c T locs cells slots) (hexec : p.tables.exec = Jvm.exec) {own C : String} {index : Nat} (hown : s.vm.findClass own = some m.cls) (hlink : (Cond.classLink own index C).before args s = true) {a : Addr} (hE : Exact C a T)
    {g : JFrame} (hg : g.method = m) {rest : List Value} (hstack : g.stack = .ref a :: rest) (hdg : decode c.code g.pc = .ok (.checkcast index, 3)) :
    ∃ T', Stand p l e R s m args below meth c T' locs cells slots ∧ T'.heap = T.heap ∧ ∀ target, Steps p.tables e below (T'.setTop { g with pc := g.pc + 3, stack := .ref a :: rest }) target → Steps p.tables e below (T.setTop g) target := by
  obtain ⟨cB, h1, D, h2, h3, h4⟩ := hE
  have h1' : s.vm.findClass C = some cB := by rw [← X.warmed.alike.findClass]; exact h1
  obtain ⟨vm', X', st⟩ := X.checkcastYes hexec hown hlink h2 h4 h1' (by rw [h3]; exact Jvm.Free.SB.assignable_self _ _) hg hstack hdg
  exact ⟨_, X', rfl, fun t h => st t (by rw [← hstack] at h; exact h)⟩
namespace SEq
def yN : MethodName := ⟨"java/lang/String", "equals", "(Ljava/lang/Object;)Z"⟩
abbrev yB : ByteArray := jdk_42_method_66_code
theorem d0 : decode yB 0 = .ok (.aload_n 0, 1) := by decide +kernel
theorem d1 : decode yB 1 = .ok (.aload_n 1, 1) := by decide +kernel
theorem d2 : decode yB 2 = .ok (.if_acmp (.ne) 5, 3) := by decide +kernel
theorem d5 : decode yB 5 = .ok (.iconst 1, 1) := by decide +kernel
theorem d6 : decode yB 6 = .ok (.ireturn, 1) := by decide +kernel
theorem d7 : decode yB 7 = .ok (.aload_n 1, 1) := by decide +kernel
theorem d8 : decode yB 8 = .ok (.instanceof 10, 3) := by decide +kernel
theorem d11 : decode yB 11 = .ok (.ifCond (.eq) 43, 3) := by decide +kernel
theorem d14 : decode yB 14 = .ok (.aload_n 1, 1) := by decide +kernel
theorem d15 : decode yB 15 = .ok (.checkcast 10, 3) := by decide +kernel
theorem d18 : decode yB 18 = .ok (.astore_n 2, 1) := by decide +kernel
theorem d19 : decode yB 19 = .ok (.getstatic 38, 3) := by decide +kernel
theorem d22 : decode yB 22 = .ok (.ifCond (.eq) 14, 3) := by decide +kernel
theorem d25 : decode yB 25 = .ok (.aload_n 0, 1) := by decide +kernel
theorem d26 : decode yB 26 = .ok (.getfield 15, 3) := by decide +kernel
theorem d29 : decode yB 29 = .ok (.aload_n 2, 1) := by decide +kernel
theorem d30 : decode yB 30 = .ok (.getfield 15, 3) := by decide +kernel
theorem d33 : decode yB 33 = .ok (.if_icmp (.ne) 21, 3) := by decide +kernel
theorem d36 : decode yB 36 = .ok (.aload_n 0, 1) := by decide +kernel
theorem d37 : decode yB 37 = .ok (.getfield 9, 3) := by decide +kernel
theorem d40 : decode yB 40 = .ok (.aload_n 2, 1) := by decide +kernel
theorem d41 : decode yB 41 = .ok (.getfield 9, 3) := by decide +kernel
theorem d44 : decode yB 44 = .ok (.invokestatic 541, 3) := by decide +kernel
theorem d47 : decode yB 47 = .ok (.ifCond (.eq) 7, 3) := by decide +kernel
theorem d50 : decode yB 50 = .ok (.iconst 1, 1) := by decide +kernel
theorem d51 : decode yB 51 = .ok (.goto 4, 3) := by decide +kernel
theorem d54 : decode yB 54 = .ok (.iconst 0, 1) := by decide +kernel
theorem d55 : decode yB 55 = .ok (.ireturn, 1) := by decide +kernel
def site : List Cond := [.classLink "java/lang/String" 10 "java/lang/String", .fieldLink "java/lang/String" 38 "java/lang/String" "COMPACT_STRINGS" "Z", .fieldLink "java/lang/String" 15 "java/lang/String" "coder" "B", .fieldLink "java/lang/String" 9 "java/lang/String" "value" "[B", LEq.tab] ++ staticW "java/lang/String" 541 LEq.yN
def tab : Cond := tabOf yN yB 3 (some .boolean) site
def P (x t : Addr) (V : Cell) (cd : Int32) (n : Nat) (f : Nat → Int32) (y t' : Addr) (V' : Cell) (cd' : Int32) (k : Nat) (g : Nat → Int32) (z : Int32) (args : Array Value) (s : State) : Prop := args = #[.ref x, .ref y] ∧ Txt x t V cd n f s ∧ Txt y t' V' cd' k g s ∧ StaticIs s "java/lang/String" "COMPACT_STRINGS" "Z" (.int z) ∧ ¬ z = 0
/-- equals(Object) of two Strings: whether the texts are the same -/
theorem law (l : Launch) (x t : Addr) (V : Cell) (cd : Int32) (n : Nat) (f : Nat → Int32) (y t' : Addr) (V' : Cell) (cd' : Int32) (k : Nat) (g : Nat → Int32) (z : Int32) : Law l yN 2 1 1 14 yB 3 (some .boolean) site (P x t V cd n f y t' V' cd' k g z) (Says01 (SameT n f k g)) [] 0 0 := by
  refine Law.of_walk (plainFor_of_name (by decide +kernel)) (by decide +kernel) (by decide +kernel) (by decide) (fun _ _ h => by rw [h.1]; rfl) (fun _ U U' hal hh h => ⟨h.1, h.2.1.mv hal hh, h.2.2.1.mv hal hh, h.2.2.2.1.there hal hh, h.2.2.2.2⟩) (fun r U U' V V' h1 hal h2 h => Says01.mv r U U' V V' h1 hal h2 h) ?_
  intro p e s m args below meth c s₁ X0 hexec hbytes hml hret hlk hnm hown hh0 W hP
  obtain ⟨rfl, hx, hy, s1, hz⟩ := hP
  have c1 : Steps p.tables e below (s₁.setTop (entryFrame m #[.ref x, .ref y] 3)) (s₁.setTop (mkF m 2 #[.val (.ref x), .val (.ref y), .unset] [.ref y, .ref x])) := Steps.trans (entry rfl) (by
    show Steps p.tables e below (s₁.setTop (mkF m 0 #[.val (.ref x), .val (.ref y), .unset] [])) _
    refine XS.aloadN X0.here hexec rfl (hb hbytes d0) rfl rfl ?_
    refine XS.aloadN X0.here hexec rfl (hb hbytes d1) rfl rfl ?_
    exact Steps.refl _)
  by_cases hxy : x = y
  · have c2 : Steps p.tables e below (s₁.setTop (entryFrame m #[.ref x, .ref y] 3)) (s₁.setTop (mkF m 6 #[.val (.ref x), .val (.ref y), .unset] [.int 1])) := c1.trans (by
      refine acmpNo X0.here hexec rfl (hb hbytes d2) rfl rfl rfl (by simp [acmp, hxy]) ?_
      refine iconstV X0.here hexec rfl 1 (hb hbytes d5) (by decide) ?_
      exact Steps.refl _)
    subst hxy
    have ec : cd = cd' := by
      obtain ⟨D, fd, a1, a2, a3⟩ := hx.2.2.1
      obtain ⟨D', fd', b1, b2, b3⟩ := hy.2.2.1
      cases a1.symm.trans b1
      obtain ⟨q1, q2, q3, q4⟩ := a2.1
      obtain ⟨r1, r2, r3, r4⟩ := b2.1
      cases q4.symm.trans r4
      cases a3.symm.trans b3; rfl
    have et : t = t' := by
      obtain ⟨D, fd, a1, a2, a3⟩ := hx.2.1
      obtain ⟨D', fd', b1, b2, b3⟩ := hy.2.1
      cases a1.symm.trans b1
      obtain ⟨q1, q2, q3, q4⟩ := a2.1
      obtain ⟨r1, r2, r3, r4⟩ := b2.1
      cases q4.symm.trans r4
      cases a3.symm.trans b3; rfl
    subst ec et
    have ev : V = V' := by cases hx.2.2.2.1.1.symm.trans hy.2.2.2.1.1; rfl
    subst ev
    have hs : SameT n f k g := (Cod.eqv hx.2.2.2.2.1 hy.2.2.2.2.1 hx.2.2.2.2.2 hy.2.2.2.2.2).mp ⟨rfl, fun _ _ => rfl⟩
    exact ⟨s₁, some (.int 1), _, _, _, X0, rfl, rfl, rfl, (fun h => by cases h), ⟨1, rfl, hh0, Or.inl ⟨rfl, hs⟩⟩, fun fs hl => c2.trans (X0.ireturnOut hexec hret rfl (Or.inr (Or.inl rfl)) (hb hbytes d6) hl)⟩
  · have c2 : Steps p.tables e below (s₁.setTop (entryFrame m #[.ref x, .ref y] 3)) (s₁.setTop (mkF m 8 #[.val (.ref x), .val (.ref y), .unset] [.ref y])) := c1.trans (by
      refine acmpYes X0.here hexec rfl (pc0 := 2) rfl (hb hbytes d2) rfl rfl rfl (by simp [acmp, hxy]) (by decide) rfl ?_
      refine XS.aloadN X0.here hexec rfl (hb hbytes d7) rfl rfl ?_
      exact Steps.refl _)
    obtain ⟨T3, X3, q3, st3⟩ := cinst X0 hexec hown (wk W (.classLink "java/lang/String" 10 "java/lang/String")) (hy.mv X0.warmed.alike hh0).1 (g := (mkF m 8 #[.val (.ref x), .val (.ref y), .unset] [.ref y])) rfl (rest := []) rfl (hb hbytes d8)
    have hh3 := q3.trans hh0
    have c4 : Steps p.tables e below (s₁.setTop (entryFrame m #[.ref x, .ref y] 3)) (T3.setTop (mkF m 15 #[.val (.ref x), .val (.ref y), .unset] [.ref y])) := (c2.trans (st3 _ (Steps.refl _))).trans (by
      refine XS.ifNo X3.here hexec rfl (hb hbytes d11) rfl (i0_eq_f (by decide)) ?_
      refine XS.aloadN X3.here hexec rfl (hb hbytes d14) rfl rfl ?_
      exact Steps.refl _)
    obtain ⟨T5, X5, q5, st5⟩ := cself X3 hexec hown (wk W (.classLink "java/lang/String" 10 "java/lang/String")) (hy.mv X3.warmed.alike hh3).1 (g := (mkF m 15 #[.val (.ref x), .val (.ref y), .unset] [.ref y])) rfl (rest := []) rfl (hb hbytes d15)
    have hh5 := q5.trans hh3
    have c6 : Steps p.tables e below (s₁.setTop (entryFrame m #[.ref x, .ref y] 3)) (T5.setTop (mkF m 19 #[.val (.ref x), .val (.ref y), .val (.ref y)] [])) := (c4.trans (st5 _ (Steps.refl _))).trans (by
      refine XS.astoreN X5.here hexec rfl (hb hbytes d18) rfl rfl rfl ?_
      exact Steps.refl _)
    obtain ⟨T7, X7, q7, st7⟩ := X5.sget hexec hown (wk W (.fieldLink "java/lang/String" 38 "java/lang/String" "COMPACT_STRINGS" "Z")) s1 (fun _ _ h => by rw [hh5]; exact h) (g := (mkF m 19 #[.val (.ref x), .val (.ref y), .val (.ref y)] [])) rfl (hb hbytes d19)
    have hh7 := q7.trans hh5
    have c8 : Steps p.tables e below (s₁.setTop (entryFrame m #[.ref x, .ref y] 3)) (T7.setTop (mkF m 26 #[.val (.ref x), .val (.ref y), .val (.ref y)] [.ref x])) := (c6.trans (st7 _ (Steps.refl _))).trans (by
      refine XS.ifNo X7.here hexec rfl (hb hbytes d22) rfl (i0_eq_f hz) ?_
      refine XS.aloadN X7.here hexec rfl (hb hbytes d25) rfl rfl ?_
      exact Steps.refl _)
    obtain ⟨T9, X9, q9, st9⟩ := X7.hget hexec hown (wk W (.fieldLink "java/lang/String" 15 "java/lang/String" "coder" "B")) (hx.mv X7.warmed.alike hh7).2.2.1 (g := (mkF m 26 #[.val (.ref x), .val (.ref y), .val (.ref y)] [.ref x])) rfl (rest := []) rfl (hb hbytes d26)
    have hh9 := q9.trans hh7
    have c10 : Steps p.tables e below (s₁.setTop (entryFrame m #[.ref x, .ref y] 3)) (T9.setTop (mkF m 30 #[.val (.ref x), .val (.ref y), .val (.ref y)] [.ref y, .int cd])) := (c8.trans (st9 _ (Steps.refl _))).trans (by
      refine XS.aloadN X9.here hexec rfl (hb hbytes d29) rfl rfl ?_
      exact Steps.refl _)
    obtain ⟨T11, X11, q11, st11⟩ := X9.hget hexec hown (wk W (.fieldLink "java/lang/String" 15 "java/lang/String" "coder" "B")) (hy.mv X9.warmed.alike hh9).2.2.1 (g := (mkF m 30 #[.val (.ref x), .val (.ref y), .val (.ref y)] [.ref y, .int cd])) rfl (rest := [.int cd]) rfl (hb hbytes d30)
    have hh11 := q11.trans hh9
    have c12 : Steps p.tables e below (s₁.setTop (entryFrame m #[.ref x, .ref y] 3)) (T11.setTop (mkF m 33 #[.val (.ref x), .val (.ref y), .val (.ref y)] [.int cd', .int cd])) := c10.trans (st11 _ (Steps.refl _))
    by_cases hcd : cd = cd'
    · subst hcd
      have c13 : Steps p.tables e below (s₁.setTop (entryFrame m #[.ref x, .ref y] 3)) (T11.setTop (mkF m 37 #[.val (.ref x), .val (.ref y), .val (.ref y)] [.ref x])) := c12.trans (by
        refine XS.icmpNo X11.here hexec rfl (hb hbytes d33) rfl (ii_ne_f rfl) ?_
        refine XS.aloadN X11.here hexec rfl (hb hbytes d36) rfl rfl ?_
        exact Steps.refl _)
      obtain ⟨T14, X14, q14, st14⟩ := X11.hget hexec hown (wk W (.fieldLink "java/lang/String" 9 "java/lang/String" "value" "[B")) (hx.mv X11.warmed.alike hh11).2.1 (g := (mkF m 37 #[.val (.ref x), .val (.ref y), .val (.ref y)] [.ref x])) rfl (rest := []) rfl (hb hbytes d37)
      have hh14 := q14.trans hh11
      have c15 : Steps p.tables e below (s₁.setTop (entryFrame m #[.ref x, .ref y] 3)) (T14.setTop (mkF m 41 #[.val (.ref x), .val (.ref y), .val (.ref y)] [.ref y, .ref t])) := (c13.trans (st14 _ (Steps.refl _))).trans (by
        refine XS.aloadN X14.here hexec rfl (hb hbytes d40) rfl rfl ?_
        exact Steps.refl _)
      obtain ⟨T16, X16, q16, st16⟩ := X14.hget hexec hown (wk W (.fieldLink "java/lang/String" 9 "java/lang/String" "value" "[B")) (hy.mv X14.warmed.alike hh14).2.1 (g := (mkF m 41 #[.val (.ref x), .val (.ref y), .val (.ref y)] [.ref y, .ref t])) rfl (rest := [.ref t]) rfl (hb hbytes d41)
      have hh16 := q16.trans hh14
      have c17 : Steps p.tables e below (s₁.setTop (entryFrame m #[.ref x, .ref y] 3)) (T16.setTop (mkF m 44 #[.val (.ref x), .val (.ref y), .val (.ref y)] [.ref t', .ref t])) := c15.trans (st16 _ (Steps.refl _))
      obtain ⟨v18, T18, X18, E18, g18⟩ := X16.callS hexec (LEq.law l t V t' V') hown (wks W (staticW "java/lang/String" 541 LEq.yN)) (wk W LEq.tab) (W := 0) (Nat.le_of_ble_eq_true rfl) (Nat.le_of_ble_eq_true rfl) (Nat.le_refl _) (Nat.le_refl _) (g := (mkF m 44 #[.val (.ref x), .val (.ref y), .val (.ref y)] [.ref t', .ref t])) rfl (by rw [hml]; rfl) c17 (argsL := [.ref t, .ref t']) (rest := []) rfl rfl (by show 2 * 0 + 0 ≤ _; decide) (hb hbytes d44) (⟨rfl, hx.2.2.2.1.mv X16.warmed.alike hh16, hx.2.2.2.2.1.ty, hy.2.2.2.1.mv X16.warmed.alike hh16, hy.2.2.2.2.1.ty⟩)
      obtain ⟨v, rfl, q18, hv⟩ := E18
      have iff := Cod.eqv hx.2.2.2.2.1 hy.2.2.2.2.1 hx.2.2.2.2.2 hy.2.2.2.2.2
      rcases hv with ⟨rfl, he⟩ | ⟨rfl, he⟩
      · have c19 : Steps p.tables e below (s₁.setTop (entryFrame m #[.ref x, .ref y] 3)) (T18.setTop (mkF m 55 #[.val (.ref x), .val (.ref y), .val (.ref y)] [.int 1])) := Steps.trans g18 (by
          refine XS.ifNo X18.here hexec rfl (hb hbytes d47) rfl (i0_eq_f (by decide)) ?_
          refine iconstV X18.here hexec rfl 1 (hb hbytes d50) (by decide) ?_
          refine XS.goto X18.here hexec rfl (pc0 := 51) rfl (hb hbytes d51) (by decide) rfl ?_
          exact Steps.refl _)
        exact ⟨T18, some (.int 1), _, _, _, X18, rfl, rfl, rfl, (fun h => by cases h), ⟨1, rfl, q18.trans hh16, Or.inl ⟨rfl, iff.mp he⟩⟩, fun fs hl => c19.trans (X18.ireturnOut hexec hret rfl (Or.inr (Or.inl rfl)) (hb hbytes d55) hl)⟩
      · have c19 : Steps p.tables e below (s₁.setTop (entryFrame m #[.ref x, .ref y] 3)) (T18.setTop (mkF m 55 #[.val (.ref x), .val (.ref y), .val (.ref y)] [.int 0])) := Steps.trans g18 (by
          refine XS.ifYes X18.here hexec rfl (pc0 := 47) rfl (hb hbytes d47) rfl (i0_eq_t rfl) (by decide) rfl ?_
          refine iconstV X18.here hexec rfl 0 (hb hbytes d54) (by decide) ?_
          exact Steps.refl _)
        exact ⟨T18, some (.int 0), _, _, _, X18, rfl, rfl, rfl, (fun h => by cases h), ⟨0, rfl, q18.trans hh16, Or.inr ⟨rfl, fun q => he (iff.mpr q)⟩⟩, fun fs hl => c19.trans (X18.ireturnOut hexec hret rfl (Or.inr (Or.inl rfl)) (hb hbytes d55) hl)⟩
    · have c13 : Steps p.tables e below (s₁.setTop (entryFrame m #[.ref x, .ref y] 3)) (T11.setTop (mkF m 55 #[.val (.ref x), .val (.ref y), .val (.ref y)] [.int 0])) := c12.trans (by
        refine XS.icmpYes X11.here hexec rfl (pc0 := 33) rfl (hb hbytes d33) rfl (ii_ne_t hcd) (by decide) rfl ?_
        refine iconstV X11.here hexec rfl 0 (hb hbytes d54) (by decide) ?_
        exact Steps.refl _)
      exact ⟨T11, some (.int 0), _, _, _, X11, rfl, rfl, rfl, (fun h => by cases h), ⟨0, rfl, hh11, Or.inr ⟨rfl, Cod.dif hx.2.2.2.2.1 hy.2.2.2.2.1 hcd⟩⟩, fun fs hl => c13.trans (X11.ireturnOut hexec hret rfl (Or.inr (Or.inl rfl)) (hb hbytes d55) hl)⟩
theorem pays {l : Launch} {R : Room} {p : Program} {e : Env} {below : List Frame} {s : State} {sargs : Array Value} {len W : Nat} (x t : Addr) (V : Cell) (cd : Int32) (n : Nat) (f : Nat → Int32) (y t' : Addr) (V' : Cell) (cd' : Int32) (k : Nat) (g : Nat → Int32) (z : Int32) (htab : tab.before sargs s = true) (hfr : 2 ≤ R.frames) (hlo : W + 28 ≤ R.locals) :
    Back l R p e below s sargs yN len W (fun A₁ a₁ => A₁.cells + 0 ≤ R.cells ∧ A₁.slots + 0 ≤ R.slots ∧ P x t V cd n f y t' V' cd' k g z a₁ A₁.U) (fun A₁ _ v₁ B₁ => Says01 (SameT n f k g) v₁ A₁.U B₁.U ∧ B₁.locs = A₁.locs ++ [] ∧ B₁.cells = A₁.cells + 0 ∧ B₁.slots = A₁.slots + 0) :=
  (law l x t V cd n f y t' V' cd' k g z).pays htab hfr (by omega)
end SEq
end StrChars
namespace StrChars.Road
open Jvm Sem ClassFile Op Lib Jvm.Stand Jvm.Free Jvm.Free.XT
open Jvm.Lib.Cold (StaticIs)
/-- the words of String.equals(Object) -/
abbrev wordsEq : List Jvm.Cond := [.code SEq.yN SEq.yB 3 (some .boolean), .initialized ST, .classLink ST 10 ST, .fieldLink ST 38 ST "COMPACT_STRINGS" "Z", .fieldLink ST 15 ST "coder" "B", .fieldLink ST 9 ST "value" "[B", .methodLink ST 541 LEq.yN, .static LEq.yN, .code LEq.yN LEq.yB 3 (some .boolean), .initialized "java/lang/StringLatin1"]
theorem tabEq_of {a : Array Value} {s : State} (h : ∀ w ∈ wordsEq, w.before a s = true) : SEq.tab.before a s = true := by
  have hl : LEq.tab.before a s = true := unparts (wk h (.code LEq.yN LEq.yB 3 (some .boolean))) (wks h (.initialized LEq.yN.cls :: LEq.site))
  have q := consq hl h
  exact unparts (wk q (.code SEq.yN SEq.yB 3 (some .boolean))) (wks q (.initialized SEq.yN.cls :: SEq.site))
theorem movedEq {Z s : State} {a0 args : Array Value} (hZ : Z.Warmed39 s.vm) (hw : ∀ d ∈ wordsEq, d.before a0 Z = true) : ∀ d ∈ wordsEq, d.before args s = true := fun d hd => by
  have t : ∀ d ∈ wordsEq, (d.onTables && d.keepsFace) = true := by decide +kernel
  exact RoadKit.mv hZ (hw d hd) (t d hd)
/-- the road's facts of a String, as the laws ask it -/
theorem txt_of {Z U : State} {a0 : Array Value} {kI : Nat} (wi : (Jvm.Cond.instantiable ST kI).before a0 Z = true) (al : Z.vm.Alike U.vm) {x t : Addr} {kb : ClassId} {cs : List Int32} {cd N2 : Int32} {vs : List Value} (E : RoadKit.Exa Z U.heap x ST) (V : RoadKit.Fld Z U.heap x ST "value" "[B" (.ref t)) (C : RoadKit.Fld Z U.heap x ST "coder" "B" (.int cd)) (K : RoadKit.Arv Z U.heap t kb .byte N2 vs (.int 0)) (hc : CodA cs cd N2 vs) (hb : ∀ c ∈ cs, ¬ c < 0 ∧ ¬ (65535 : Int32) < c) (l2 : cs.length ≤ 4000) :
    ∃ A, Txt x t A cd cs.length (fun j => cs.getD j 0) U := by
  obtain ⟨A, K1, K2, K3, K4, K5, K6⟩ := K
  have hcod := hc.cod (by omega) K3 K5
  obtain ⟨D, fV, fC, hB, F1, F2, g1, g2, -, -⟩ := strObj wi al E V C
  exact ⟨A, ⟨_, hB.2.2.1, D, hB.1, rfl, by cases q : D.vm <;> first | rfl | exact absurd q (hB.2.1.2 _)⟩, Has.of hB F1 g1, Has.of hB F2 g2, ⟨K1.1, State.isArrayOf_alike al K1.2.1, K1.2.2, by rcases hcod with ⟨-, q, -⟩ | ⟨-, q, -⟩ <;> omega⟩, hcod, fun j hj => by
    have e : cs.getD j 0 = cs[j] := by simp [List.getD_eq_getElem?_getD, hj]
    show ¬ cs.getD j 0 < 0 ∧ ¬ 65535 < cs.getD j 0
    rw [e]; exact hb _ (List.getElem_mem _)⟩
theorem same_list (cs ds : List Int32) : SameT cs.length (fun j => cs.getD j 0) ds.length (fun j => ds.getD j 0) ↔ cs = ds := by
  constructor
  · rintro ⟨e, q⟩
    refine List.ext_getElem e fun j h1 h2 => ?_
    have := q j h1
    simpa [List.getD_eq_getElem?_getD, h1, h2] using this
  · rintro rfl
    exact ⟨rfl, fun _ _ => rfl⟩
/-- **equals(Object) OF TWO SUCH STRINGS**: 1 just where the chars are the same -/
theorem eqW {p : Program} {l : Launch} {e : Env} {R : Room} {s : State} {args : Array Value} {below : List Frame} {len W : Nat} {Z : State} {a0 : Array Value} {h : Heap} (hZ : Z.Warmed39 s.vm) (hw : ∀ d ∈ wordsEq, d.before a0 Z = true) {kI : Nat} (wi : (Jvm.Cond.instantiable ST kI).before a0 Z = true)
    {x t : Addr} {kb : ClassId} {cs : List Int32} {cd N2 : Int32} {vs : List Value} (E : RoadKit.Exa Z h x ST) (V : RoadKit.Fld Z h x ST "value" "[B" (.ref t)) (C : RoadKit.Fld Z h x ST "coder" "B" (.int cd)) (K : RoadKit.Arv Z h t kb .byte N2 vs (.int 0)) (hc : CodA cs cd N2 vs) (hb : ∀ c ∈ cs, ¬ c < 0 ∧ ¬ (65535 : Int32) < c) (l2 : cs.length ≤ 4000)
    {y t' : Addr} {kb' : ClassId} {ds : List Int32} {cd' N2' : Int32} {vs' : List Value} (E' : RoadKit.Exa Z h y ST) (V' : RoadKit.Fld Z h y ST "value" "[B" (.ref t')) (C' : RoadKit.Fld Z h y ST "coder" "B" (.int cd')) (K' : RoadKit.Arv Z h t' kb' .byte N2' vs' (.int 0)) (hc' : CodA ds cd' N2' vs') (hb' : ∀ c ∈ ds, ¬ c < 0 ∧ ¬ (65535 : Int32) < c) (l2' : ds.length ≤ 4000)
    {z : Int32} (S : RoadKit.Sta Z h ST "COMPACT_STRINGS" "Z" (.int z)) (hz : ¬ z = 0) (hfr : 2 ≤ R.frames) (hlo : W + 28 ≤ R.locals) :
    Back l R p e below s args (⟨"java/lang/String", "equals", "(Ljava/lang/Object;)Z"⟩ : MethodName) len W (fun P a => a = #[.ref x, .ref y] ∧ P.U.heap = h ∧ P.cells + 0 ≤ R.cells ∧ P.slots + 0 ≤ R.slots)
      (fun P _ v B => ∃ L, (((v = some (.int 1) ∧ cs = ds) ∨ (v = some (.int 0) ∧ ¬ cs = ds)) ∧ L = [] ∧ B.U.heap = h) ∧ B.locs = P.locs ++ L ∧ B.cells = P.cells + 0 ∧ B.slots = P.slots + 0) := by
  intro m meth c P g ig mk a X hg hsize hdg hW hn hp'
  obtain ⟨rfl, rfl, r1, r2⟩ := hp'
  have al : Z.vm.Alike P.U.vm := hZ.alike.trans X.warmed.alike
  obtain ⟨A, hx⟩ := txt_of wi al E V C K hc hb l2
  obtain ⟨A', hy⟩ := txt_of wi al E' V' C' K' hc' hb' l2'
  obtain ⟨v, B, X', ⟨⟨w, hv, hh, hq⟩, hl, hk, hs⟩, st⟩ := SEq.pays x t A cd cs.length (fun j => cs.getD j 0) y t' A' cd' ds.length (fun j => ds.getD j 0) z (tabEq_of (movedEq hZ hw)) hfr hlo m meth c P g ig mk _ X hg hsize hdg hW hn ⟨r1, r2, rfl, hx, hy, sta_is al S, hz⟩
  refine ⟨v, B, X', ⟨[], ⟨?_, rfl, hh⟩, hl, hk, hs⟩, st⟩
  rcases hq with ⟨rfl, q⟩ | ⟨rfl, q⟩
  · exact Or.inl ⟨hv, (same_list cs ds).mp q⟩
  · exact Or.inr ⟨hv, fun e => q ((same_list cs ds).mpr e)⟩
end StrChars.Road
namespace StrChars.Road
open Jvm Sem ClassFile Op Lib Jvm.Stand Jvm.Free Jvm.Free.XT
open Jvm.Lib.Cold (StaticIs)
/-- what backV says of its String, as the contracts of this text ask it: cs's low bytes, coder 0 -/
theorem codOf {cs : List Int32} {n : Nat} (hn : cs.length = n) (hb : ∀ c ∈ cs, ¬ 255 < c) : CodA cs 0 (Int32.ofNat n) ((cs.map lo8).map Value.int) := Or.inl ⟨rfl, by rw [hn], by simp [List.map_map, Function.comp_def], hb⟩
end StrChars.Road
end Jvm.Pilot.@@N@@
namespace Jvm.Pilot.@@N@@
open Jvm Jvm.ClassFile Sem Op Lib Jvm.Free Jvm.Stand Jvm.LawKit Jvm.RoadKit Bundle Jvm.OwK Jvm.Pilot.@@N@@.Jvm.D
theorem wd {a0 : Array Value} {Z : State} (hw : ∀ d ∈ tables_1, d.before a0 Z = true) (k : Nat) {d : Jvm.Cond} (h : tables_1[k]? = some d) : d.before a0 Z = true := hw _ (List.mem_of_getElem? h)
/-- the statics on which the String laws rest -/
def Gl (Z : State) : Prop := (∃ z : Int32, Sta Z Z.heap "java/lang/String" "COMPACT_STRINGS" "Z" (.int z) ∧ ¬ z = 0) ∧ ∃ v : Value, Sta Z Z.heap "jdk/internal/util/Preconditions" "SIOOBE_FORMATTER" "Ljava/util/function/BiFunction;" v ∧ v.isRef = true
section StrCalls
variable {nw : Prop} {EL : List (String × Nat)} {n0 : Nat} {Z : State} {a0 : Array Value} {p : Program} {l : Launch} {e : Env} {R : Room} {s : State} {args : Array Value} {below : List Frame} {h : Heap} {xs : List Addr} {wt : Nat}
theorem newStr (hE : EW Z a0 EL) (hw : ∀ d ∈ tables_1, d.before a0 Z = true) (G : Gl Z) {x b : Addr} {ka : ClassId} {cs : List Int32} (N : NewS Z h x) (A : CArr Z h b ka cs) (hm : n0 ≤ x ∧ x < h.size) (hx : x ∈ xs) (hp : ∀ c ∈ cs, ¬ c < 0 ∧ ¬ (255 : Int32) < c) (l0 : 0 < cs.length) (l2 : cs.length ≤ 4000) (hfr : 4 ≤ R.frames) (hlo : wt + 65 ≤ R.locals) :
    Call nw EL n0 Z xs l R p e below s args (⟨"java/lang/String", "<init>", "([C)V"⟩ : MethodName) 3 wt #[.ref x, .ref b] h 1 cs.length (RN fun h' => Keep h h' [x] ∧ Str Z h' x cs) := by
  obtain ⟨⟨z, O2, P5⟩, -⟩ := G
  have hws : ∀ d ∈ StrChars.Road.words, d.before a0 Z = true := fun d hd => hw d ((by decide +kernel : ∀ d ∈ StrChars.Road.words, d ∈ tables_1) d hd)
  refine Call.of_back hE (Qb := fun v h' Lc => StrChars.Road.QV Z x (Int32.ofNat cs.length) (cs.map fun c => c.toInt8.toInt32) h n0 v h' Lc) (fun vm0 hZ hO => StrChars.Road.backV (s := s.setVm vm0) hZ hws (kI := 4) (wd hw 10 rfl) (cs := cs) (n := cs.length) hm.1 (old_le hO) N.1 N.2.1 N.2.2 A (O2.ext hO.2) P5 rfl rfl l0 l2 hp rfl hfr hlo) (fun v h' Lc hO q => ?_)
  obtain ⟨q1, q2, q3, q4, q5, t, kb, t1, t2, t3, q6, q7⟩ := q
  exact ⟨⟨q1, q3, q4, q5, ⟨t, kb, q6, q7⟩, hp, l2⟩, q2, [x], q3, by simp [hx]⟩
theorem strLen (hE : EW Z a0 EL) (hw : ∀ d ∈ tables_1, d.before a0 Z = true) (G : Gl Z) {x : Addr} {cs : List Int32} (S : Str Z h x cs) (hfr : 2 ≤ R.frames) (hlo : wt + 25 ≤ R.locals) :
    Call nw EL n0 Z xs l R p e below s args (⟨"java/lang/String", "length", "()I"⟩ : MethodName) 3 wt #[.ref x] h 0 0 (RV fun w h' => w = .int (Int32.ofNat cs.length) ∧ h = h') := by
  obtain ⟨⟨z, O2, P5⟩, -⟩ := G
  obtain ⟨E, C, ⟨b, k, V, A⟩, hp, hl⟩ := S
  have hws : ∀ d ∈ StrChars.Road.wordsLen, d.before a0 Z = true := fun d hd => hw d ((by decide +kernel : ∀ d ∈ StrChars.Road.wordsLen, d ∈ tables_1) d hd)
  refine Call.of_back hE (Qb := fun v h' Lc => v = some (.int (Int32.ofNat cs.length)) ∧ Lc = [] ∧ h' = h) (fun vm0 hZ hO => StrChars.Road.lenW (s := s.setVm vm0) hZ hws (kI := 4) (wd hw 10 rfl) E V C A (StrChars.Road.codOf (n := cs.length) rfl (fun c hc => (hp c hc).2)) (up_chars cs hp) (O2.ext hO.2) P5 hl hfr hlo) (fun v h' Lc hO q => ?_)
  obtain ⟨rfl, rfl, rfl⟩ := q
  exact ⟨⟨_, rfl, rfl, rfl⟩, Fr.nil _, [], Keep.refl _ _, fun _ q => nomatch q⟩
theorem strEq (hE : EW Z a0 EL) (hw : ∀ d ∈ tables_1, d.before a0 Z = true) (G : Gl Z) {x y : Addr} {cs ds : List Int32} (S : Str Z h x cs) (S' : Str Z h y ds) (hfr : 2 ≤ R.frames) (hlo : wt + 28 ≤ R.locals) :
    Call nw EL n0 Z xs l R p e below s args (⟨"java/lang/String", "equals", "(Ljava/lang/Object;)Z"⟩ : MethodName) 3 wt #[.ref x, .ref y] h 0 0 (RV fun w h' => w = .int (if cs = ds then 1 else 0) ∧ h = h') := by
  obtain ⟨⟨z, O2, P5⟩, -⟩ := G
  obtain ⟨E, C, ⟨b, k, V, A⟩, hp, hl⟩ := S
  obtain ⟨E', C', ⟨b', k', V', A'⟩, hp', hl'⟩ := S'
  have hws : ∀ d ∈ StrChars.Road.wordsEq, d.before a0 Z = true := fun d hd => hw d ((by decide +kernel : ∀ d ∈ StrChars.Road.wordsEq, d ∈ tables_1) d hd)
  refine Call.of_back hE (Qb := fun v h' Lc => ((v = some (.int 1) ∧ cs = ds) ∨ (v = some (.int 0) ∧ ¬ cs = ds)) ∧ Lc = [] ∧ h' = h) (fun vm0 hZ hO => StrChars.Road.eqW (s := s.setVm vm0) hZ hws (kI := 4) (wd hw 10 rfl) E V C A (StrChars.Road.codOf (n := cs.length) rfl (fun c hc => (hp c hc).2)) (up_chars cs hp) hl E' V' C' A' (StrChars.Road.codOf (n := ds.length) rfl (fun c hc => (hp' c hc).2)) (up_chars ds hp') hl' (O2.ext hO.2) P5 hfr hlo) (fun v h' Lc hO q => ?_)
  obtain ⟨hv, rfl, rfl⟩ := q
  refine ⟨⟨.int (if cs = ds then 1 else 0), ?_, rfl, rfl⟩, Fr.nil _, [], Keep.refl _ _, fun _ q => nomatch q⟩
  rcases hv with ⟨rfl, q⟩ | ⟨rfl, q⟩
  · rw [if_pos q]
  · rw [if_neg q]
end StrCalls
def EL0 : List (String × Nat) := [("com/example/tributary/tributary/MediaTypesOfPinLaw", 38), ("java/lang/StringLatin1", 151), ("java/lang/StringLatin1", 168), ("java/lang/StringLatin1", 170), ("java/lang/StringLatin1", 172)]
abbrev NW : Prop := False
theorem pn_0 : plainName "java/lang/String" = true := by first | (simp [plainName, overriddenIn]; done) | decide +kernel
theorem d_jdk_42_method_152_0 : Dec jdk_42_method_152_code 0 (.getstatic 38) 3 3 := ⟨by decide +kernel, rfl⟩
theorem d_jdk_42_method_152_3 : Dec jdk_42_method_152_code 3 (.ifCond .eq 10) 3 6 := ⟨by decide +kernel, rfl⟩
theorem d_jdk_42_method_152_6 : Dec jdk_42_method_152_code 6 (.aload_n 0) 1 7 := ⟨by decide +kernel, rfl⟩
theorem d_jdk_42_method_152_7 : Dec jdk_42_method_152_code 7 (.getfield 15) 3 10 := ⟨by decide +kernel, rfl⟩
theorem d_jdk_42_method_152_10 : Dec jdk_42_method_152_code 10 (.goto 4) 3 13 := ⟨by decide +kernel, rfl⟩
theorem d_jdk_42_method_152_14 : Dec jdk_42_method_152_code 14 (.ireturn) 1 15 := ⟨by decide +kernel, rfl⟩
set_option maxRecDepth 65536 in
set_option maxHeartbeats 40000000 in
theorem c_coder (l : Launch) (Z : State) (a0 : Array Value) (hw : ∀ d ∈ tables_1, d.before a0 Z = true) (hE : EW Z a0 EL0) {n0 : Nat} {h0 : Heap} (hO : Old Z n0 h0) (hG : Gl Z) {a : Addr} {cs : List Int32} (S : Str Z h0 a cs) :
    Ctr NW EL0 n0 Z [] l (⟨"java/lang/String", "coder", "()B"⟩ : MethodName) jdk_42_method_152_code 1 (some .byte) ({ frames := 0, cells := 0, slots := 0, locals := 0 } : Room) #[.ref a] h0 (RV fun w h => w = .int 0 ∧ h0 = h) := by
  refine Ctr.body (plainFor_of_name pn_0) hE hO (fun x q => nomatch q) (L0 := #[.val (.ref a)]) (fun m => by first | (simp [entryFrame, mkF, argsToLocals, Value.category, maxLocals]; done) | rfl) ?_
  intro p e s m below meth c T0 W0
  obtain ⟨⟨zc, O2, P5⟩, -⟩ := id hG
  obtain ⟨Ex, Co, -⟩ := id S
  refine Go.gets W0 d_jdk_42_method_152_0 (wd hw 35 rfl) Via.refl O2 ?_
  intro T1 W1
  refine Go.ifeq W1.cx d_jdk_42_method_152_3 (by decide) (q := 13) rfl (fun hh => (by first | exact absurd P5 hh | exact absurd hh P5)) (fun _ => ?_)
  refine Go.aload_n W1.cx d_jdk_42_method_152_6 (v := (.ref a)) rfl rfl ?_
  refine Go.getf W1 d_jdk_42_method_152_7 (wd hw 36 rfl) Via.refl Co ?_
  intro T2 W2
  refine Go.goto W2.cx d_jdk_42_method_152_10 (by decide) (q := 14) rfl ?_
  exact Go.iret W2 d_jdk_42_method_152_14 (by simp) rfl (by decide) (by decide) ⟨_, rfl, rfl, rfl⟩
theorem d_jdk_42_method_154_0 : Dec jdk_42_method_154_code 0 (.getstatic 38) 3 3 := ⟨by decide +kernel, rfl⟩
theorem d_jdk_42_method_154_3 : Dec jdk_42_method_154_code 3 (.ifCond .eq 14) 3 6 := ⟨by decide +kernel, rfl⟩
theorem d_jdk_42_method_154_6 : Dec jdk_42_method_154_code 6 (.aload_n 0) 1 7 := ⟨by decide +kernel, rfl⟩
theorem d_jdk_42_method_154_7 : Dec jdk_42_method_154_code 7 (.getfield 15) 3 10 := ⟨by decide +kernel, rfl⟩
theorem d_jdk_42_method_154_10 : Dec jdk_42_method_154_code 10 (.ifCond .ne 7) 3 13 := ⟨by decide +kernel, rfl⟩
theorem d_jdk_42_method_154_13 : Dec jdk_42_method_154_code 13 (.iconst 1) 1 14 := ⟨by decide +kernel, rfl⟩
theorem d_jdk_42_method_154_14 : Dec jdk_42_method_154_code 14 (.goto 4) 3 17 := ⟨by decide +kernel, rfl⟩
theorem d_jdk_42_method_154_18 : Dec jdk_42_method_154_code 18 (.ireturn) 1 19 := ⟨by decide +kernel, rfl⟩
set_option maxRecDepth 65536 in
set_option maxHeartbeats 40000000 in
theorem c_lat1 (l : Launch) (Z : State) (a0 : Array Value) (hw : ∀ d ∈ tables_1, d.before a0 Z = true) (hE : EW Z a0 EL0) {n0 : Nat} {h0 : Heap} (hO : Old Z n0 h0) (hG : Gl Z) {a : Addr} {cs : List Int32} (S : Str Z h0 a cs) :
    Ctr NW EL0 n0 Z [] l (⟨"java/lang/String", "isLatin1", "()Z"⟩ : MethodName) jdk_42_method_154_code 1 (some .boolean) ({ frames := 0, cells := 0, slots := 0, locals := 0 } : Room) #[.ref a] h0 (RV fun w h => w = .int 1 ∧ h0 = h) := by
  refine Ctr.body (plainFor_of_name pn_0) hE hO (fun x q => nomatch q) (L0 := #[.val (.ref a)]) (fun m => by first | (simp [entryFrame, mkF, argsToLocals, Value.category, maxLocals]; done) | rfl) ?_
  intro p e s m below meth c T0 W0
  obtain ⟨⟨zc, O2, P5⟩, -⟩ := id hG
  obtain ⟨Ex, Co, -⟩ := id S
  refine Go.gets W0 d_jdk_42_method_154_0 (wd hw 35 rfl) Via.refl O2 ?_
  intro T1 W1
  refine Go.ifeq W1.cx d_jdk_42_method_154_3 (by decide) (q := 17) rfl (fun hh => (by first | exact absurd P5 hh | exact absurd hh P5)) (fun _ => ?_)
  refine Go.aload_n W1.cx d_jdk_42_method_154_6 (v := (.ref a)) rfl rfl ?_
  refine Go.getf W1 d_jdk_42_method_154_7 (wd hw 36 rfl) Via.refl Co ?_
  intro T2 W2
  refine Go.ifne W2.cx d_jdk_42_method_154_10 (by decide) (q := 17) rfl (fun hh => (by first | exact absurd (rfl : (0 : Int32) = 0) hh | exact absurd hh (rfl : (0 : Int32) = 0))) (fun _ => ?_)
  refine Go.iconst W2.cx d_jdk_42_method_154_13 (z := (1 : Int32)) rfl ?_
  refine Go.goto W2.cx d_jdk_42_method_154_14 (by decide) (q := 18) rfl ?_
  exact Go.iret W2 d_jdk_42_method_154_18 (by simp) rfl (by decide) (by decide) ⟨_, rfl, rfl, rfl⟩
theorem pn_1 : plainName "java/lang/StringLatin1" = true := by first | (simp [plainName, overriddenIn]; done) | decide +kernel
theorem d_jdk_43_method_4_0 : Dec jdk_43_method_4_code 0 (.iload_n 0) 1 1 := ⟨by decide +kernel, rfl⟩
theorem d_jdk_43_method_4_1 : Dec jdk_43_method_4_code 1 (.ifCond .lt 14) 3 4 := ⟨by decide +kernel, rfl⟩
theorem d_jdk_43_method_4_4 : Dec jdk_43_method_4_code 4 (.iload_n 0) 1 5 := ⟨by decide +kernel, rfl⟩
theorem d_jdk_43_method_4_5 : Dec jdk_43_method_4_code 5 (.sipush 255) 3 8 := ⟨by decide +kernel, rfl⟩
theorem d_jdk_43_method_4_8 : Dec jdk_43_method_4_code 8 (.if_icmp .gt 7) 3 11 := ⟨by decide +kernel, rfl⟩
theorem d_jdk_43_method_4_11 : Dec jdk_43_method_4_code 11 (.iconst 1) 1 12 := ⟨by decide +kernel, rfl⟩
theorem d_jdk_43_method_4_12 : Dec jdk_43_method_4_code 12 (.goto 4) 3 15 := ⟨by decide +kernel, rfl⟩
theorem d_jdk_43_method_4_16 : Dec jdk_43_method_4_code 16 (.ireturn) 1 17 := ⟨by decide +kernel, rfl⟩
set_option maxRecDepth 65536 in
set_option maxHeartbeats 40000000 in
theorem c_can (l : Launch) (Z : State) (a0 : Array Value) (hw : ∀ d ∈ tables_1, d.before a0 Z = true) (hE : EW Z a0 EL0) {n0 : Nat} {h0 : Heap} (hO : Old Z n0 h0) {x : Int32} (hx : ¬ x < 0 ∧ ¬ (255 : Int32) < x) :
    Ctr NW EL0 n0 Z [] l (⟨"java/lang/StringLatin1", "canEncode", "(I)Z"⟩ : MethodName) jdk_43_method_4_code 1 (some .boolean) ({ frames := 0, cells := 0, slots := 0, locals := 0 } : Room) #[.int x] h0 (RV fun w h => w = .int 1 ∧ h0 = h) := by
  refine Ctr.body (plainFor_of_name pn_1) hE hO (fun x q => nomatch q) (L0 := #[.val (.int x)]) (fun m => by first | (simp [entryFrame, mkF, argsToLocals, Value.category, maxLocals]; done) | rfl) ?_
  intro p e s m below meth c T0 W0
  refine Go.iload_n W0.cx d_jdk_43_method_4_0 (v := x) rfl ?_
  refine Go.iflt W0.cx d_jdk_43_method_4_1 (by decide) (q := 15) rfl (fun hh => (by first | exact absurd hx.1 hh | exact absurd hh hx.1)) (fun _ => ?_)
  refine Go.iload_n W0.cx d_jdk_43_method_4_4 (v := x) rfl ?_
  refine Go.sipush W0.cx d_jdk_43_method_4_5 (z := (255 : Int32)) rfl ?_
  refine Go.icgt W0.cx d_jdk_43_method_4_8 (by decide) (q := 15) rfl (fun hh => (by first | exact absurd hx.2 hh | exact absurd hh hx.2)) (fun _ => ?_)
  refine Go.iconst W0.cx d_jdk_43_method_4_11 (z := (1 : Int32)) rfl ?_
  refine Go.goto W0.cx d_jdk_43_method_4_12 (by decide) (q := 16) rfl ?_
  exact Go.iret W0 d_jdk_43_method_4_16 (by simp) rfl (by decide) (by decide) ⟨_, rfl, rfl, rfl⟩
theorem d_jdk_29_method_65_0 : Dec jdk_29_method_65_code 0 (.iload_n 0) 1 1 := ⟨by decide +kernel, rfl⟩
theorem d_jdk_29_method_65_1 : Dec jdk_29_method_65_code 1 (.iload_n 1) 1 2 := ⟨by decide +kernel, rfl⟩
theorem d_jdk_29_method_65_2 : Dec jdk_29_method_65_code 2 (.if_icmp .lt 7) 3 5 := ⟨by decide +kernel, rfl⟩
theorem d_jdk_29_method_65_5 : Dec jdk_29_method_65_code 5 (.iload_n 0) 1 6 := ⟨by decide +kernel, rfl⟩
theorem d_jdk_29_method_65_6 : Dec jdk_29_method_65_code 6 (.goto 4) 3 9 := ⟨by decide +kernel, rfl⟩
theorem d_jdk_29_method_65_10 : Dec jdk_29_method_65_code 10 (.ireturn) 1 11 := ⟨by decide +kernel, rfl⟩
set_option maxRecDepth 65536 in
set_option maxHeartbeats 40000000 in
theorem c_max (l : Launch) (Z : State) (a0 : Array Value) (hw : ∀ d ∈ tables_1, d.before a0 Z = true) (hE : EW Z a0 EL0) {n0 : Nat} {h0 : Heap} (hO : Old Z n0 h0) (x : Int32) :
    Ctr NW EL0 n0 Z [] l (⟨"java/lang/Math", "max", "(II)I"⟩ : MethodName) jdk_29_method_65_code 2 (some .int) ({ frames := 0, cells := 0, slots := 0, locals := 0 } : Room) #[.int x, .int x] h0 (RV fun w h => w = .int x ∧ h0 = h) := by
  refine Ctr.body (by decide +kernel) hE hO (fun x q => nomatch q) (L0 := #[.val (.int x), .val (.int x)]) (fun m => by first | (simp [entryFrame, mkF, argsToLocals, Value.category, maxLocals]; done) | rfl) ?_
  intro p e s m below meth c T0 W0
  refine Go.iload_n W0.cx d_jdk_29_method_65_0 (v := x) rfl ?_
  refine Go.iload_n W0.cx d_jdk_29_method_65_1 (v := x) rfl ?_
  refine Go.iclt W0.cx d_jdk_29_method_65_2 (by decide) (q := 9) rfl (fun hh => (by first | exact absurd (Int32.lt_irrefl (a := x)) hh | exact absurd hh (Int32.lt_irrefl (a := x)))) (fun _ => ?_)
  refine Go.iload_n W0.cx d_jdk_29_method_65_5 (v := x) rfl ?_
  refine Go.goto W0.cx d_jdk_29_method_65_6 (by decide) (q := 10) rfl ?_
  exact Go.iret W0 d_jdk_29_method_65_10 (by simp) rfl (by decide) (by decide) ⟨_, rfl, rfl, rfl⟩
theorem d_jdk_29_method_69_0 : Dec jdk_29_method_69_code 0 (.iload_n 0) 1 1 := ⟨by decide +kernel, rfl⟩
theorem d_jdk_29_method_69_1 : Dec jdk_29_method_69_code 1 (.iload_n 1) 1 2 := ⟨by decide +kernel, rfl⟩
theorem d_jdk_29_method_69_2 : Dec jdk_29_method_69_code 2 (.if_icmp .gt 7) 3 5 := ⟨by decide +kernel, rfl⟩
theorem d_jdk_29_method_69_5 : Dec jdk_29_method_69_code 5 (.iload_n 0) 1 6 := ⟨by decide +kernel, rfl⟩
theorem d_jdk_29_method_69_6 : Dec jdk_29_method_69_code 6 (.goto 4) 3 9 := ⟨by decide +kernel, rfl⟩
theorem d_jdk_29_method_69_10 : Dec jdk_29_method_69_code 10 (.ireturn) 1 11 := ⟨by decide +kernel, rfl⟩
set_option maxRecDepth 65536 in
set_option maxHeartbeats 40000000 in
theorem c_min (l : Launch) (Z : State) (a0 : Array Value) (hw : ∀ d ∈ tables_1, d.before a0 Z = true) (hE : EW Z a0 EL0) {n0 : Nat} {h0 : Heap} (hO : Old Z n0 h0) (x : Int32) :
    Ctr NW EL0 n0 Z [] l (⟨"java/lang/Math", "min", "(II)I"⟩ : MethodName) jdk_29_method_69_code 2 (some .int) ({ frames := 0, cells := 0, slots := 0, locals := 0 } : Room) #[.int x, .int x] h0 (RV fun w h => w = .int x ∧ h0 = h) := by
  refine Ctr.body (by decide +kernel) hE hO (fun x q => nomatch q) (L0 := #[.val (.int x), .val (.int x)]) (fun m => by first | (simp [entryFrame, mkF, argsToLocals, Value.category, maxLocals]; done) | rfl) ?_
  intro p e s m below meth c T0 W0
  refine Go.iload_n W0.cx d_jdk_29_method_69_0 (v := x) rfl ?_
  refine Go.iload_n W0.cx d_jdk_29_method_69_1 (v := x) rfl ?_
  refine Go.icgt W0.cx d_jdk_29_method_69_2 (by decide) (q := 9) rfl (fun hh => (by first | exact absurd (Int32.lt_irrefl (a := x)) hh | exact absurd hh (Int32.lt_irrefl (a := x)))) (fun _ => ?_)
  refine Go.iload_n W0.cx d_jdk_29_method_69_5 (v := x) rfl ?_
  refine Go.goto W0.cx d_jdk_29_method_69_6 (by decide) (q := 10) rfl ?_
  exact Go.iret W0 d_jdk_29_method_69_10 (by simp) rfl (by decide) (by decide) ⟨_, rfl, rfl, rfl⟩
theorem d_jdk_43_method_23_0 : Dec jdk_43_method_23_code 0 (.iload_n 1) 1 1 := ⟨by decide +kernel, rfl⟩
theorem d_jdk_43_method_23_1 : Dec jdk_43_method_23_code 1 (.i2b) 1 2 := ⟨by decide +kernel, rfl⟩
theorem d_jdk_43_method_23_2 : Dec jdk_43_method_23_code 2 (.istore 4) 2 4 := ⟨by decide +kernel, rfl⟩
theorem d_jdk_43_method_23_4 : Dec jdk_43_method_23_code 4 (.iload_n 2) 1 5 := ⟨by decide +kernel, rfl⟩
theorem d_jdk_43_method_23_5 : Dec jdk_43_method_23_code 5 (.istore 5) 2 7 := ⟨by decide +kernel, rfl⟩
theorem d_jdk_43_method_23_7 : Dec jdk_43_method_23_code 7 (.iload 5) 2 9 := ⟨by decide +kernel, rfl⟩
theorem d_jdk_43_method_23_9 : Dec jdk_43_method_23_code 9 (.iload_n 3) 1 10 := ⟨by decide +kernel, rfl⟩
theorem d_jdk_43_method_23_10 : Dec jdk_43_method_23_code 10 (.if_icmp .ge 21) 3 13 := ⟨by decide +kernel, rfl⟩
theorem d_jdk_43_method_23_31 : Dec jdk_43_method_23_code 31 (.iconst (-1)) 1 32 := ⟨by decide +kernel, rfl⟩
theorem d_jdk_43_method_23_32 : Dec jdk_43_method_23_code 32 (.ireturn) 1 33 := ⟨by decide +kernel, rfl⟩
theorem d_jdk_43_method_23_13 : Dec jdk_43_method_23_code 13 (.aload_n 0) 1 14 := ⟨by decide +kernel, rfl⟩
theorem d_jdk_43_method_23_14 : Dec jdk_43_method_23_code 14 (.iload 5) 2 16 := ⟨by decide +kernel, rfl⟩
theorem d_jdk_43_method_23_16 : Dec jdk_43_method_23_code 16 (.baload) 1 17 := ⟨by decide +kernel, rfl⟩
theorem d_jdk_43_method_23_17 : Dec jdk_43_method_23_code 17 (.iload 4) 2 19 := ⟨by decide +kernel, rfl⟩
theorem d_jdk_43_method_23_19 : Dec jdk_43_method_23_code 19 (.if_icmp .ne 6) 3 22 := ⟨by decide +kernel, rfl⟩
theorem d_jdk_43_method_23_25 : Dec jdk_43_method_23_code 25 (.iinc 5 1) 3 28 := ⟨by decide +kernel, rfl⟩
theorem d_jdk_43_method_23_28 : Dec jdk_43_method_23_code 28 (.goto (-21)) 3 31 := ⟨by decide +kernel, rfl⟩
theorem d_jdk_43_method_23_22 : Dec jdk_43_method_23_code 22 (.iload 5) 2 24 := ⟨by decide +kernel, rfl⟩
theorem d_jdk_43_method_23_24 : Dec jdk_43_method_23_code 24 (.ireturn) 1 25 := ⟨by decide +kernel, rfl⟩
set_option maxRecDepth 65536 in
set_option maxHeartbeats 40000000 in
theorem c_ioc (l : Launch) (Z : State) (a0 : Array Value) (hw : ∀ d ∈ tables_1, d.before a0 Z = true) (hE : EW Z a0 EL0) {n0 : Nat} {h0 : Heap} (hO : Old Z n0 h0) {a : Addr} {ka : ClassId} {cs : List Int32} {x : Int32} (A : BArr Z h0 a ka cs) (hpc : ∀ c ∈ cs, ¬ c < 0 ∧ ¬ (255 : Int32) < c) (hcl : cs.length ≤ 4000) (hx : ¬ x < 0 ∧ ¬ (255 : Int32) < x) :
    Ctr NW EL0 n0 Z [] l (⟨"java/lang/StringLatin1", "indexOfChar", "([BIII)I"⟩ : MethodName) jdk_43_method_23_code 6 (some .int) ({ frames := 0, cells := 0, slots := 0, locals := 0 } : Room) #[.ref a, .int x, .int (0 : Int32), .int (Int32.ofNat cs.length)] h0 (RV fun w h => ∃ k : Nat, k ≤ cs.length ∧ (∀ t, t < k → ¬ cs.getD t 0 = x) ∧ ((k < cs.length ∧ cs.getD k 0 = x ∧ w = .int (Int32.ofNat k)) ∨ (k = cs.length ∧ w = .int (-1))) ∧ h0 = h) := by
  refine Ctr.body (plainFor_of_name pn_1) hE hO (fun x q => nomatch q) (L0 := #[.val (.ref a), .val (.int x), .val (.int (0 : Int32)), .val (.int (Int32.ofNat cs.length)), .unset, .unset]) (fun m => by first | (simp [entryFrame, mkF, argsToLocals, Value.category, maxLocals]; done) | rfl) ?_
  intro p e s m below meth c T0 W0
  refine Go.iload_n W0.cx d_jdk_43_method_23_0 (v := x) rfl ?_
  refine Go.i2b W0.cx d_jdk_43_method_23_1 ?_
  refine Go.top (show _ = by8 x from rfl) ?_
  refine Go.istore W0.cx d_jdk_43_method_23_2 (L' := #[.val (.ref a), .val (.int x), .val (.int (0 : Int32)), .val (.int (Int32.ofNat cs.length)), .val (.int (by8 x)), .unset]) rfl ?_
  refine Go.iload_n W0.cx d_jdk_43_method_23_4 (v := (0 : Int32)) rfl ?_
  refine Go.istore W0.cx d_jdk_43_method_23_5 (L' := #[.val (.ref a), .val (.int x), .val (.int (0 : Int32)), .val (.int (Int32.ofNat cs.length)), .val (.int (by8 x)), .val (.int (0 : Int32))]) rfl ?_
  have loop : ∀ j i, i + j = cs.length → (∀ t, t < i → ¬ cs.getD t 0 = x) → ∀ (T : State), Wk NW EL0 n0 Z a0 "java/lang/StringLatin1" "indexOfChar" jdk_43_method_23_code 6 (some .int) p l e ({ frames := 0, cells := 0, slots := 0, locals := 0 } : Room) s m #[.ref a, .int x, .int (0 : Int32), .int (Int32.ofNat cs.length)] below meth c T h0 [] 0 0 → Go p e below (Endp NW EL0 n0 Z below s ({ frames := 0, cells := 0, slots := 0, locals := 0 } : Room).cells ({ frames := 0, cells := 0, slots := 0, locals := 0 } : Room).slots (RV fun w h => ∃ k : Nat, k ≤ cs.length ∧ (∀ t, t < k → ¬ cs.getD t 0 = x) ∧ ((k < cs.length ∧ cs.getD k 0 = x ∧ w = .int (Int32.ofNat k)) ∨ (k = cs.length ∧ w = .int (-1))) ∧ h0 = h)) T (mkF m 7 #[.val (.ref a), .val (.int x), .val (.int (0 : Int32)), .val (.int (Int32.ofNat cs.length)), .val (.int (by8 x)), .val (.int (Int32.ofNat i))] []) := by
    intro j
    induction j with
    | zero =>
      intro i hi hin T1 W1
      refine Go.iload W1.cx d_jdk_43_method_23_7 (v := (Int32.ofNat i)) rfl ?_
      refine Go.iload_n W1.cx d_jdk_43_method_23_9 (v := (Int32.ofNat cs.length)) rfl ?_
      refine Go.icge W1.cx d_jdk_43_method_23_10 (by decide) (q := 31) rfl (fun _ => ?_) (fun hh => (by first | exact absurd (show ¬ Int32.ofNat i < Int32.ofNat cs.length by rw [lt_nat (by omega) (by omega)]; omega) hh | exact absurd hh (show ¬ Int32.ofNat i < Int32.ofNat cs.length by rw [lt_nat (by omega) (by omega)]; omega)))
      refine Go.iconst W1.cx d_jdk_43_method_23_31 (z := (-1 : Int32)) rfl ?_
      exact Go.iret W1 d_jdk_43_method_23_32 (by simp) rfl (by decide) (by decide) ⟨_, rfl, i, by omega, hin, Or.inr ⟨by omega, rfl⟩, rfl⟩
    | succ j ih =>
      intro i hi hin T1 W1
      refine Go.iload W1.cx d_jdk_43_method_23_7 (v := (Int32.ofNat i)) rfl ?_
      refine Go.iload_n W1.cx d_jdk_43_method_23_9 (v := (Int32.ofNat cs.length)) rfl ?_
      refine Go.icge W1.cx d_jdk_43_method_23_10 (by decide) (q := 31) rfl (fun hh => (by first | exact absurd (show Int32.ofNat i < Int32.ofNat cs.length by rw [lt_nat (by omega) (by omega)]; omega) hh | exact absurd hh (show Int32.ofNat i < Int32.ofNat cs.length by rw [lt_nat (by omega) (by omega)]; omega))) (fun _ => ?_)
      refine Go.aload_n W1.cx d_jdk_43_method_23_13 (v := (.ref a)) rfl rfl ?_
      refine Go.iload W1.cx d_jdk_43_method_23_14 (v := (Int32.ofNat i)) rfl ?_
      refine Go.baload W1 i d_jdk_43_method_23_16 A rfl (by omega) (by omega) (v := (by8 (cs.getD i 0))) rfl ?_
      refine Go.iload W1.cx d_jdk_43_method_23_17 (v := (by8 x)) rfl ?_
      have hq := by8_inj (getD_ch hpc (i := i) (by omega)) hx
      refine Go.icne W1.cx d_jdk_43_method_23_19 (by decide) (q := 25) rfl (fun c1 => ?_) (fun c1 => ?_)
      · refine Go.iinc W1.cx d_jdk_43_method_23_25 (z := (Int32.ofNat (i + 1))) (L' := #[.val (.ref a), .val (.int x), .val (.int (0 : Int32)), .val (.int (Int32.ofNat cs.length)), .val (.int (by8 x)), .val (.int (Int32.ofNat (i + 1)))]) rfl (add1_nat i) rfl ?_
        refine Go.goto W1.cx d_jdk_43_method_23_28 (by decide) (q := 7) rfl ?_
        exact ih (i + 1) (by omega) (fun t ht => by rcases Nat.lt_or_eq_of_le (Nat.le_of_lt_succ ht) with z | z; exact hin t z; rw [z]; exact fun u => c1 (hq.mpr u)) _ W1
      · refine Go.iload W1.cx d_jdk_43_method_23_22 (v := (Int32.ofNat i)) rfl ?_
        exact Go.iret W1 d_jdk_43_method_23_24 (by simp) rfl (by decide) (by decide) ⟨_, rfl, i, by omega, hin, Or.inl ⟨by omega, hq.mp c1, rfl⟩, rfl⟩
  exact loop cs.length 0 (by omega) (fun t ht => absurd ht (Nat.not_lt_zero _)) _ W0
theorem d_jdk_43_method_22_0 : Dec jdk_43_method_22_code 0 (.iload_n 1) 1 1 := ⟨by decide +kernel, rfl⟩
theorem d_jdk_43_method_22_1 : Dec jdk_43_method_22_code 1 (.invokestatic 88) 3 4 := ⟨by decide +kernel, rfl⟩
theorem pd_0 : parseMethodDescriptor "(I)Z" = some ⟨[.int], some .boolean⟩ := by decide +kernel
theorem d_jdk_43_method_22_4 : Dec jdk_43_method_22_code 4 (.ifCond .ne 5) 3 7 := ⟨by decide +kernel, rfl⟩
theorem d_jdk_43_method_22_9 : Dec jdk_43_method_22_code 9 (.iload_n 2) 1 10 := ⟨by decide +kernel, rfl⟩
theorem d_jdk_43_method_22_10 : Dec jdk_43_method_22_code 10 (.iconst 0) 1 11 := ⟨by decide +kernel, rfl⟩
theorem d_jdk_43_method_22_11 : Dec jdk_43_method_22_code 11 (.invokestatic 92) 3 14 := ⟨by decide +kernel, rfl⟩
theorem pd_1 : parseMethodDescriptor "(II)I" = some ⟨[.int, .int], some .int⟩ := by decide +kernel
theorem d_jdk_43_method_22_14 : Dec jdk_43_method_22_code 14 (.istore_n 2) 1 15 := ⟨by decide +kernel, rfl⟩
theorem d_jdk_43_method_22_15 : Dec jdk_43_method_22_code 15 (.iload_n 3) 1 16 := ⟨by decide +kernel, rfl⟩
theorem d_jdk_43_method_22_16 : Dec jdk_43_method_22_code 16 (.aload_n 0) 1 17 := ⟨by decide +kernel, rfl⟩
theorem d_jdk_43_method_22_17 : Dec jdk_43_method_22_code 17 (.arraylength) 1 18 := ⟨by decide +kernel, rfl⟩
theorem d_jdk_43_method_22_18 : Dec jdk_43_method_22_code 18 (.invokestatic 38) 3 21 := ⟨by decide +kernel, rfl⟩
theorem d_jdk_43_method_22_21 : Dec jdk_43_method_22_code 21 (.istore_n 3) 1 22 := ⟨by decide +kernel, rfl⟩
theorem d_jdk_43_method_22_22 : Dec jdk_43_method_22_code 22 (.iload_n 2) 1 23 := ⟨by decide +kernel, rfl⟩
theorem d_jdk_43_method_22_23 : Dec jdk_43_method_22_code 23 (.iload_n 3) 1 24 := ⟨by decide +kernel, rfl⟩
theorem d_jdk_43_method_22_24 : Dec jdk_43_method_22_code 24 (.if_icmp .lt 5) 3 27 := ⟨by decide +kernel, rfl⟩
theorem d_jdk_43_method_22_29 : Dec jdk_43_method_22_code 29 (.aload_n 0) 1 30 := ⟨by decide +kernel, rfl⟩
theorem d_jdk_43_method_22_30 : Dec jdk_43_method_22_code 30 (.iload_n 1) 1 31 := ⟨by decide +kernel, rfl⟩
theorem d_jdk_43_method_22_31 : Dec jdk_43_method_22_code 31 (.iload_n 2) 1 32 := ⟨by decide +kernel, rfl⟩
theorem d_jdk_43_method_22_32 : Dec jdk_43_method_22_code 32 (.iload_n 3) 1 33 := ⟨by decide +kernel, rfl⟩
theorem d_jdk_43_method_22_33 : Dec jdk_43_method_22_code 33 (.invokestatic 95) 3 36 := ⟨by decide +kernel, rfl⟩
theorem pd_2 : parseMethodDescriptor "([BIII)I" = some ⟨[(.array .byte), .int, .int, .int], some .int⟩ := by decide +kernel
theorem d_jdk_43_method_22_36 : Dec jdk_43_method_22_code 36 (.ireturn) 1 37 := ⟨by decide +kernel, rfl⟩
theorem d_jdk_43_method_22_27 : Dec jdk_43_method_22_code 27 (.iconst (-1)) 1 28 := ⟨by decide +kernel, rfl⟩
theorem d_jdk_43_method_22_28 : Dec jdk_43_method_22_code 28 (.ireturn) 1 29 := ⟨by decide +kernel, rfl⟩
set_option maxRecDepth 65536 in
set_option maxHeartbeats 40000000 in
theorem c_l1io (l : Launch) (Z : State) (a0 : Array Value) (hw : ∀ d ∈ tables_1, d.before a0 Z = true) (hE : EW Z a0 EL0) {n0 : Nat} {h0 : Heap} (hO : Old Z n0 h0) {a : Addr} {ka : ClassId} {cs : List Int32} {x : Int32} (A : BArr Z h0 a ka cs) (hpc : ∀ c ∈ cs, ¬ c < 0 ∧ ¬ (255 : Int32) < c) (hcl : cs.length ≤ 4000) (hx : ¬ x < 0 ∧ ¬ (255 : Int32) < x) :
    Ctr NW EL0 n0 Z [] l (⟨"java/lang/StringLatin1", "indexOf", "([BIII)I"⟩ : MethodName) jdk_43_method_22_code 4 (some .int) ({ frames := 1, cells := 0, slots := 0, locals := 17 } : Room) #[.ref a, .int x, .int (0 : Int32), .int (Int32.ofNat cs.length)] h0 (RV fun w h => ∃ k : Nat, k ≤ cs.length ∧ (∀ t, t < k → ¬ cs.getD t 0 = x) ∧ ((k < cs.length ∧ cs.getD k 0 = x ∧ w = .int (Int32.ofNat k)) ∨ (k = cs.length ∧ w = .int (-1))) ∧ h0 = h) := by
  refine Ctr.body (plainFor_of_name pn_1) hE hO (fun x q => nomatch q) (L0 := #[.val (.ref a), .val (.int x), .val (.int (0 : Int32)), .val (.int (Int32.ofNat cs.length))]) (fun m => by first | (simp [entryFrame, mkF, argsToLocals, Value.category, maxLocals]; done) | rfl) ?_
  intro p e s m below meth c T0 W0
  refine Go.iload_n W0.cx d_jdk_43_method_22_0 (v := x) rfl ?_
  refine Go.invs1 W0 (Ctr.call (wt := 0) (c_can l Z a0 hw hE W0.old hx) W0.ew (wd hw 54 rfl) (wd hw 50 rfl) (by simp) (by decide) (by decide)) d_jdk_43_method_22_1 (wd hw 52 rfl) (wd hw 53 rfl) (wd hw 50 rfl) (wd hw 54 rfl) (by decide) pd_0 rfl rfl (rest := []) rfl (Nat.le_of_eq rfl) (cells' := 0) (slots' := 0) rfl rfl (by decide) (by decide) ?_
  rintro T1 h1 _ W1 z1 ⟨rfl, e1⟩
  subst e1
  refine Go.ifne W1.cx d_jdk_43_method_22_4 (by decide) (q := 9) rfl (fun _ => ?_) (fun hh => (by first | exact absurd (by decide : ¬ (1 : Int32) = 0) hh | exact absurd hh (by decide : ¬ (1 : Int32) = 0)))
  refine Go.iload_n W1.cx d_jdk_43_method_22_9 (v := (0 : Int32)) rfl ?_
  refine Go.iconst W1.cx d_jdk_43_method_22_10 (z := (0 : Int32)) rfl ?_
  refine Go.invs1 W1 (Ctr.call (wt := 0) (c_max l Z a0 hw hE W1.old (0 : Int32)) W1.ew (wd hw 58 rfl) (wd hw 57 rfl) (by simp) (by decide) (by decide)) d_jdk_43_method_22_11 (wd hw 55 rfl) (wd hw 56 rfl) (wd hw 57 rfl) (wd hw 58 rfl) (by decide) pd_1 rfl rfl (rest := []) rfl (Nat.le_of_eq rfl) (cells' := 0) (slots' := 0) rfl rfl (by decide) (by decide) ?_
  rintro T2 h2 _ W2 z2 ⟨rfl, e2⟩
  subst e2
  refine Go.istore_n W2.cx d_jdk_43_method_22_14 (L' := #[.val (.ref a), .val (.int x), .val (.int (0 : Int32)), .val (.int (Int32.ofNat cs.length))]) rfl ?_
  refine Go.iload_n W2.cx d_jdk_43_method_22_15 (v := (Int32.ofNat cs.length)) rfl ?_
  refine Go.aload_n W2.cx d_jdk_43_method_22_16 (v := (.ref a)) rfl rfl ?_
  refine Go.alen W2 d_jdk_43_method_22_17 A ?_
  refine Go.invs1 W2 (Ctr.call (wt := 0) (c_min l Z a0 hw hE W2.old (Int32.ofNat cs.length)) W2.ew (wd hw 61 rfl) (wd hw 57 rfl) (by simp) (by decide) (by decide)) d_jdk_43_method_22_18 (wd hw 59 rfl) (wd hw 60 rfl) (wd hw 57 rfl) (wd hw 61 rfl) (by decide) pd_1 rfl rfl (rest := []) rfl (Nat.le_of_eq rfl) (cells' := 0) (slots' := 0) rfl rfl (by decide) (by decide) ?_
  rintro T3 h3 _ W3 z3 ⟨rfl, e3⟩
  subst e3
  refine Go.istore_n W3.cx d_jdk_43_method_22_21 (L' := #[.val (.ref a), .val (.int x), .val (.int (0 : Int32)), .val (.int (Int32.ofNat cs.length))]) rfl ?_
  refine Go.iload_n W3.cx d_jdk_43_method_22_22 (v := (0 : Int32)) rfl ?_
  refine Go.iload_n W3.cx d_jdk_43_method_22_23 (v := (Int32.ofNat cs.length)) rfl ?_
  refine Go.iclt W3.cx d_jdk_43_method_22_24 (by decide) (q := 29) rfl (fun c1 => ?_) (fun c1 => ?_)
  · refine Go.aload_n W3.cx d_jdk_43_method_22_29 (v := (.ref a)) rfl rfl ?_
    refine Go.iload_n W3.cx d_jdk_43_method_22_30 (v := x) rfl ?_
    refine Go.iload_n W3.cx d_jdk_43_method_22_31 (v := (0 : Int32)) rfl ?_
    refine Go.iload_n W3.cx d_jdk_43_method_22_32 (v := (Int32.ofNat cs.length)) rfl ?_
    refine Go.invs1 W3 (Ctr.call (wt := 0) (c_ioc l Z a0 hw hE W3.old A hpc hcl hx) W3.ew (wd hw 113 rfl) (wd hw 50 rfl) (by simp) (by decide) (by decide)) d_jdk_43_method_22_33 (wd hw 111 rfl) (wd hw 112 rfl) (wd hw 50 rfl) (wd hw 113 rfl) (by decide) pd_2 rfl rfl (rest := []) rfl (Nat.le_of_eq rfl) (cells' := 0) (slots' := 0) rfl rfl (by decide) (by decide) ?_
    rintro T4 h4 v4 W4 z4 ⟨k, hk1, hk2, H4, e4⟩
    subst e4
    have hv4 : ∃ z : Int32, v4 = .int z := H4.elim (fun u => ⟨_, u.2.2⟩) (fun u => ⟨_, u.2⟩)
    obtain ⟨yy4, rfl⟩ := hv4
    exact Go.iret W4 d_jdk_43_method_22_36 (by simp) rfl (by decide) (by decide) ⟨_, rfl, k, hk1, hk2, H4, rfl⟩
  · have hz : cs.length = 0 := by have : ¬ 0 < cs.length := fun z => c1 ((lt_nat (a := 0) (by omega) (by omega)).mpr z); omega
    refine Go.iconst W3.cx d_jdk_43_method_22_27 (z := (-1 : Int32)) rfl ?_
    exact Go.iret W3 d_jdk_43_method_22_28 (by simp) rfl (by decide) (by decide) ⟨_, rfl, 0, by omega, fun t ht => absurd ht (Nat.not_lt_zero _), Or.inr ⟨by omega, rfl⟩, rfl⟩
theorem d_jdk_42_method_80_0 : Dec jdk_42_method_80_code 0 (.aload_n 0) 1 1 := ⟨by decide +kernel, rfl⟩
theorem d_jdk_42_method_80_1 : Dec jdk_42_method_80_code 1 (.invokevirtual 492) 3 4 := ⟨by decide +kernel, rfl⟩
theorem pd_3 : parseMethodDescriptor "()Z" = some ⟨[], some .boolean⟩ := by decide +kernel
theorem d_jdk_42_method_80_4 : Dec jdk_42_method_80_code 4 (.ifCond .eq 19) 3 7 := ⟨by decide +kernel, rfl⟩
theorem d_jdk_42_method_80_7 : Dec jdk_42_method_80_code 7 (.aload_n 0) 1 8 := ⟨by decide +kernel, rfl⟩
theorem d_jdk_42_method_80_8 : Dec jdk_42_method_80_code 8 (.getfield 9) 3 11 := ⟨by decide +kernel, rfl⟩
theorem d_jdk_42_method_80_11 : Dec jdk_42_method_80_code 11 (.iload_n 1) 1 12 := ⟨by decide +kernel, rfl⟩
theorem d_jdk_42_method_80_12 : Dec jdk_42_method_80_code 12 (.iload_n 2) 1 13 := ⟨by decide +kernel, rfl⟩
theorem d_jdk_42_method_80_13 : Dec jdk_42_method_80_code 13 (.aload_n 0) 1 14 := ⟨by decide +kernel, rfl⟩
theorem d_jdk_42_method_80_14 : Dec jdk_42_method_80_code 14 (.invokevirtual 505) 3 17 := ⟨by decide +kernel, rfl⟩
theorem pd_4 : parseMethodDescriptor "()I" = some ⟨[], some .int⟩ := by decide +kernel
theorem d_jdk_42_method_80_17 : Dec jdk_42_method_80_code 17 (.invokestatic 637) 3 20 := ⟨by decide +kernel, rfl⟩
theorem d_jdk_42_method_80_20 : Dec jdk_42_method_80_code 20 (.goto 16) 3 23 := ⟨by decide +kernel, rfl⟩
theorem d_jdk_42_method_80_36 : Dec jdk_42_method_80_code 36 (.ireturn) 1 37 := ⟨by decide +kernel, rfl⟩
set_option maxRecDepth 65536 in
set_option maxHeartbeats 40000000 in
theorem c_io2 (l : Launch) (Z : State) (a0 : Array Value) (hw : ∀ d ∈ tables_1, d.before a0 Z = true) (hE : EW Z a0 EL0) {n0 : Nat} {h0 : Heap} (hO : Old Z n0 h0) (hG : Gl Z) {a : Addr} {cs : List Int32} (S : Str Z h0 a cs) {x : Int32} (hx : ¬ x < 0 ∧ ¬ (255 : Int32) < x) :
    Ctr NW EL0 n0 Z [] l (⟨"java/lang/String", "indexOf", "(II)I"⟩ : MethodName) jdk_42_method_80_code 3 (some .int) ({ frames := 2, cells := 0, slots := 0, locals := 32 } : Room) #[.ref a, .int x, .int (0 : Int32)] h0 (RV fun w h => ∃ k : Nat, k ≤ cs.length ∧ (∀ t, t < k → ¬ cs.getD t 0 = x) ∧ ((k < cs.length ∧ cs.getD k 0 = x ∧ w = .int (Int32.ofNat k)) ∨ (k = cs.length ∧ w = .int (-1))) ∧ h0 = h) := by
  refine Ctr.body (plainFor_of_name pn_0) hE hO (fun x q => nomatch q) (L0 := #[.val (.ref a), .val (.int x), .val (.int (0 : Int32))]) (fun m => by first | (simp [entryFrame, mkF, argsToLocals, Value.category, maxLocals]; done) | rfl) ?_
  intro p e s m below meth c T0 W0
  obtain ⟨-, -, ⟨b1, kb1, V1, B1⟩, hpc, hcl⟩ := id S
  refine Go.aload_n W0.cx d_jdk_42_method_80_0 (v := (.ref a)) rfl rfl ?_
  refine Go.invv1 W0 (Ctr.call (wt := 0) (c_lat1 l Z a0 hw hE W0.old hG S) W0.ew (wd hw 34 rfl) (wd hw 9 rfl) (by simp) (by decide) (by decide)) d_jdk_42_method_80_1 (wd hw 30 rfl) (wd hw 31 rfl) (wd hw 33 rfl) (wd hw 32 rfl) (by decide) S.exa pd_3 rfl rfl (rest := []) rfl (Nat.le_of_eq rfl) (cells' := 0) (slots' := 0) rfl rfl (by decide) (by decide) ?_
  rintro T1 h1 _ W1 z1 ⟨rfl, e1⟩
  subst e1
  refine Go.ifeq W1.cx d_jdk_42_method_80_4 (by decide) (q := 23) rfl (fun hh => (by first | exact absurd (by decide : ¬ (1 : Int32) = 0) hh | exact absurd hh (by decide : ¬ (1 : Int32) = 0))) (fun _ => ?_)
  refine Go.aload_n W1.cx d_jdk_42_method_80_7 (v := (.ref a)) rfl rfl ?_
  refine Go.getf W1 d_jdk_42_method_80_8 (wd hw 37 rfl) Via.refl V1 ?_
  intro T2 W2
  refine Go.iload_n W2.cx d_jdk_42_method_80_11 (v := x) rfl ?_
  refine Go.iload_n W2.cx d_jdk_42_method_80_12 (v := (0 : Int32)) rfl ?_
  refine Go.aload_n W2.cx d_jdk_42_method_80_13 (v := (.ref a)) rfl rfl ?_
  refine Go.invv1 W2 (strLen (wt := 3) W2.ew hw hG S (by decide) (by decide)) d_jdk_42_method_80_14 (wd hw 38 rfl) (wd hw 39 rfl) (wd hw 41 rfl) (wd hw 40 rfl) (by decide) S.exa pd_4 rfl rfl (rest := [(.int (0 : Int32)), (.int x), (.ref b1)]) rfl (Nat.le_of_eq rfl) (cells' := 0) (slots' := 0) rfl rfl (by decide) (by decide) ?_
  rintro T3 h3 _ W3 z3 ⟨rfl, e3⟩
  subst e3
  refine Go.invs1 W3 (Ctr.call (wt := 0) (c_l1io l Z a0 hw hE W3.old B1 hpc hcl hx) W3.ew (wd hw 51 rfl) (wd hw 50 rfl) (by simp) (by decide) (by decide)) d_jdk_42_method_80_17 (wd hw 48 rfl) (wd hw 49 rfl) (wd hw 50 rfl) (wd hw 51 rfl) (by decide) pd_2 rfl rfl (rest := []) rfl (Nat.le_of_eq rfl) (cells' := 0) (slots' := 0) rfl rfl (by decide) (by decide) ?_
  rintro T4 h4 v4 W4 z4 ⟨k, hk1, hk2, H4, e4⟩
  subst e4
  have hv4 : ∃ z : Int32, v4 = .int z := H4.elim (fun u => ⟨_, u.2.2⟩) (fun u => ⟨_, u.2⟩)
  obtain ⟨yy4, rfl⟩ := hv4
  refine Go.goto W4.cx d_jdk_42_method_80_20 (by decide) (q := 36) rfl ?_
  exact Go.iret W4 d_jdk_42_method_80_36 (by simp) rfl (by decide) (by decide) ⟨_, rfl, k, hk1, hk2, H4, rfl⟩
theorem d_jdk_42_method_79_0 : Dec jdk_42_method_79_code 0 (.aload_n 0) 1 1 := ⟨by decide +kernel, rfl⟩
theorem d_jdk_42_method_79_1 : Dec jdk_42_method_79_code 1 (.iload_n 1) 1 2 := ⟨by decide +kernel, rfl⟩
theorem d_jdk_42_method_79_2 : Dec jdk_42_method_79_code 2 (.iconst 0) 1 3 := ⟨by decide +kernel, rfl⟩
theorem d_jdk_42_method_79_3 : Dec jdk_42_method_79_code 3 (.invokevirtual 633) 3 6 := ⟨by decide +kernel, rfl⟩
theorem d_jdk_42_method_79_6 : Dec jdk_42_method_79_code 6 (.ireturn) 1 7 := ⟨by decide +kernel, rfl⟩
set_option maxRecDepth 65536 in
set_option maxHeartbeats 40000000 in
theorem c_io1 (l : Launch) (Z : State) (a0 : Array Value) (hw : ∀ d ∈ tables_1, d.before a0 Z = true) (hE : EW Z a0 EL0) {n0 : Nat} {h0 : Heap} (hO : Old Z n0 h0) (hG : Gl Z) {a : Addr} {cs : List Int32} (S : Str Z h0 a cs) {x : Int32} (hx : ¬ x < 0 ∧ ¬ (255 : Int32) < x) :
    Ctr NW EL0 n0 Z [] l (⟨"java/lang/String", "indexOf", "(I)I"⟩ : MethodName) jdk_42_method_79_code 2 (some .int) ({ frames := 3, cells := 0, slots := 0, locals := 46 } : Room) #[.ref a, .int x] h0 (RV fun w h => ∃ k : Nat, k ≤ cs.length ∧ (∀ t, t < k → ¬ cs.getD t 0 = x) ∧ ((k < cs.length ∧ cs.getD k 0 = x ∧ w = .int (Int32.ofNat k)) ∨ (k = cs.length ∧ w = .int (-1))) ∧ h0 = h) := by
  refine Ctr.body (plainFor_of_name pn_0) hE hO (fun x q => nomatch q) (L0 := #[.val (.ref a), .val (.int x)]) (fun m => by first | (simp [entryFrame, mkF, argsToLocals, Value.category, maxLocals]; done) | rfl) ?_
  intro p e s m below meth c T0 W0
  refine Go.aload_n W0.cx d_jdk_42_method_79_0 (v := (.ref a)) rfl rfl ?_
  refine Go.iload_n W0.cx d_jdk_42_method_79_1 (v := x) rfl ?_
  refine Go.iconst W0.cx d_jdk_42_method_79_2 (z := (0 : Int32)) rfl ?_
  refine Go.invv1 W0 (Ctr.call (wt := 0) (c_io2 l Z a0 hw hE W0.old hG S hx) W0.ew (wd hw 29 rfl) (wd hw 9 rfl) (by simp) (by decide) (by decide)) d_jdk_42_method_79_3 (wd hw 25 rfl) (wd hw 26 rfl) (wd hw 28 rfl) (wd hw 27 rfl) (by decide) S.exa pd_1 rfl rfl (rest := []) rfl (Nat.le_of_eq rfl) (cells' := 0) (slots' := 0) rfl rfl (by decide) (by decide) ?_
  rintro T1 h1 v1 W1 z1 ⟨k, hk1, hk2, H1, e1⟩
  subst e1
  have hv1 : ∃ z : Int32, v1 = .int z := H1.elim (fun u => ⟨_, u.2.2⟩) (fun u => ⟨_, u.2⟩)
  obtain ⟨yy1, rfl⟩ := hv1
  exact Go.iret W1 d_jdk_42_method_79_6 (by simp) rfl (by decide) (by decide) ⟨_, rfl, k, hk1, hk2, H1, rfl⟩
set_option maxRecDepth 65536 in
def TBL : List Int32 := [1207963663, 1207963663, 1207963663, 1207963663, 1207963663, 1207963663, 1207963663, 1207963663, 1207963663, 1476411407, 1342193679, 1476411407, 1610629135, 1342193679, 1207963663, 1207963663, 1207963663, 1207963663, 1207963663, 1207963663, 1207963663, 1207963663, 1207963663, 1207963663, 1207963663, 1207963663, 1207963663, 1207963663, 1342193679, 1342193679, 1342193679, 1476411407, 1610629132, 1744830488, 1744830488, 671088664, 671113242, 671088664, 1744830488, 1744830488, -402653163, -402653162, 1744830488, 536870937, 939524120, 536870932, 939524120, 939524120, 402667017, 402667017, 402667017, 402667017, 402667017, 402667017, 402667017, 402667017, 402667017, 402667017, 939524120, 1744830488, -402653159, 1744830489, -402653159, 1744830488, 1744830488, 8552417, 8552417, 8552417, 8552417, 8552417, 8552417, 8552417, 8552417, 8552417, 8552417, 8552417, 8552417, 8552417, 8552417, 8552417, 8552417, 8552417, 8552417, 8552417, 8552417, 8552417, 8552417, 8552417, 8552417, 8552417, 8552417, -402653163, 1744830488, -402653162, 1744830491, 1744850967, 1744830491, 8486882, 8486882, 8486882, 8486882, 8486882, 8486882, 8486882, 8486882, 8486882, 8486882, 8486882, 8486882, 8486882, 8486882, 8486882, 8486882, 8486882, 8486882, 8486882, 8486882, 8486882, 8486882, 8486882, 8486882, 8486882, 8486882, -402653163, 1744830489, -402653162, 1744830489, 1207963663, 1207963663, 1207963663, 1207963663, 1207963663, 1207963663, 1342181391, 1207963663, 1207963663, 1207963663, 1207963663, 1207963663, 1207963663, 1207963663, 1207963663, 1207963663, 1207963663, 1207963663, 1207963663, 1207963663, 1207963663, 1207963663, 1207963663, 1207963663, 1207963663, 1207963663, 1207963663, 1207963663, 1207963663, 1207963663, 1207963663, 1207963663, 1207963663, 939524108, 1744830488, 671113242, 671113242, 671113242, 671113242, 1744830492, 1744830488, 1744830491, 1744830492, 28677, -402653155, 1744830489, 1207963664, 1744830492, 1744830491, 671088668, 671088665, 402654731, 402654731, 1744830491, 134049794, 1744830488, 1744830488, 1744830491, 402654475, 28677, -402653154, 1744832523, 1744832523, 1744832523, 1744830488, 8548353, 8548353, 8548353, 8548353, 8548353, 8548353, 8548353, 8548353, 8548353, 8548353, 8548353, 8548353, 8548353, 8548353, 8548353, 8548353, 8548353, 8548353, 8548353, 8548353, 8548353, 8548353, 8548353, 1744830489, 8548353, 8548353, 8548353, 8548353, 8548353, 8548353, 8548353, 134049794, 8482818, 8482818, 8482818, 8482818, 8482818, 8482818, 8482818, 8482818, 8482818, 8482818, 8482818, 8482818, 8482818, 8482818, 8482818, 8482818, 8482818, 8482818, 8482818, 8482818, 8482818, 8482818, 8482818, 1744830489, 8482818, 8482818, 8482818, 8482818, 8482818, 8482818, 8482818, 102592514]
def wsP (c : Int32) : Prop := (¬ c < 9 ∧ ¬ 13 < c) ∨ (¬ c < 28 ∧ ¬ 32 < c)
instance : DecidablePred wsP := fun c => by unfold wsP; infer_instance
set_option maxRecDepth 65536 in
theorem tbl_ws : ∀ i : Fin 256, (TBL.getD i.val 0 &&& 28672 = 16384) ↔ wsP (Int32.ofNat i.val) := by decide +kernel
def Lat (Z : State) : Prop := ∃ ins D : Addr, Sta Z Z.heap "java/lang/CharacterDataLatin1" "instance" "Ljava/lang/CharacterDataLatin1;" (.ref ins) ∧ Exa Z Z.heap ins "java/lang/CharacterDataLatin1" ∧ Sta Z Z.heap "java/lang/CharacterDataLatin1" "A" "[I" (.ref D) ∧ ∃ cl : Cell, Arr Z Z.heap D cl .int ∧ ∀ i, i < 256 → cl.slots[i]? = some (.int (TBL.getD i 0))
theorem d_jdk_43_method_44_0 : Dec jdk_43_method_44_code 0 (.aload_n 0) 1 1 := ⟨by decide +kernel, rfl⟩
theorem d_jdk_43_method_44_1 : Dec jdk_43_method_44_code 1 (.iload_n 1) 1 2 := ⟨by decide +kernel, rfl⟩
theorem d_jdk_43_method_44_2 : Dec jdk_43_method_44_code 2 (.baload) 1 3 := ⟨by decide +kernel, rfl⟩
theorem d_jdk_43_method_44_3 : Dec jdk_43_method_44_code 3 (.sipush 255) 3 6 := ⟨by decide +kernel, rfl⟩
theorem d_jdk_43_method_44_6 : Dec jdk_43_method_44_code 6 (.iand) 1 7 := ⟨by decide +kernel, rfl⟩
theorem d_jdk_43_method_44_7 : Dec jdk_43_method_44_code 7 (.i2c) 1 8 := ⟨by decide +kernel, rfl⟩
theorem d_jdk_43_method_44_8 : Dec jdk_43_method_44_code 8 (.ireturn) 1 9 := ⟨by decide +kernel, rfl⟩
set_option maxRecDepth 65536 in
set_option maxHeartbeats 40000000 in
theorem c_getc (l : Launch) (Z : State) (a0 : Array Value) (hw : ∀ d ∈ tables_1, d.before a0 Z = true) (hE : EW Z a0 EL0) {n0 : Nat} {h0 : Heap} (hO : Old Z n0 h0) {b : Addr} {kb : ClassId} {cs : List Int32} (A : BArr Z h0 b kb cs) (hpc : ∀ c ∈ cs, ¬ c < 0 ∧ ¬ (255 : Int32) < c) (hcl : cs.length ≤ 4000) {i : Nat} (hi : i < cs.length) :
    Ctr NW EL0 n0 Z [] l (⟨"java/lang/StringLatin1", "getChar", "([BI)C"⟩ : MethodName) jdk_43_method_44_code 2 (some .char) ({ frames := 0, cells := 0, slots := 0, locals := 0 } : Room) #[.ref b, .int (Int32.ofNat i)] h0 (RV fun w h => w = .int (cs.getD i 0) ∧ h0 = h) := by
  refine Ctr.body (plainFor_of_name pn_1) hE hO (fun x q => nomatch q) (L0 := #[.val (.ref b), .val (.int (Int32.ofNat i))]) (fun m => by first | (simp [entryFrame, mkF, argsToLocals, Value.category, maxLocals]; done) | rfl) ?_
  intro p e s m below meth c T0 W0
  have hr := getD_ch hpc hi
  refine Go.aload_n W0.cx d_jdk_43_method_44_0 (v := (.ref b)) rfl rfl ?_
  refine Go.iload_n W0.cx d_jdk_43_method_44_1 (v := (Int32.ofNat i)) rfl ?_
  refine Go.baload W0 i d_jdk_43_method_44_2 A rfl hi (by omega) (v := (by8 (cs.getD i 0))) rfl ?_
  refine Go.sipush W0.cx d_jdk_43_method_44_3 (z := (255 : Int32)) rfl ?_
  refine Go.iand W0.cx d_jdk_43_method_44_6 ?_
  refine Go.i2c W0.cx d_jdk_43_method_44_7 ?_
  refine Go.top (show _ = ((by8 (cs.getD i 0)) &&& (255 : Int32)) from i2c_mask _) ?_
  refine Go.top (by8_and hr) ?_
  exact Go.iret W0 d_jdk_43_method_44_8 (by simp) (narrow_ch hr) (by decide) (by decide) ⟨_, rfl, rfl, rfl⟩
theorem pn_2 : plainName "java/lang/CharacterDataLatin1" = true := by first | (simp [plainName, overriddenIn]; done) | decide +kernel
theorem d_jdk_116_method_1_0 : Dec jdk_116_method_1_code 0 (.iload_n 1) 1 1 := ⟨by decide +kernel, rfl⟩
theorem d_jdk_116_method_1_1 : Dec jdk_116_method_1_code 1 (.i2c) 1 2 := ⟨by decide +kernel, rfl⟩
theorem d_jdk_116_method_1_2 : Dec jdk_116_method_1_code 2 (.istore_n 2) 1 3 := ⟨by decide +kernel, rfl⟩
theorem d_jdk_116_method_1_3 : Dec jdk_116_method_1_code 3 (.getstatic 1) 3 6 := ⟨by decide +kernel, rfl⟩
theorem d_jdk_116_method_1_6 : Dec jdk_116_method_1_code 6 (.iload_n 2) 1 7 := ⟨by decide +kernel, rfl⟩
theorem d_jdk_116_method_1_7 : Dec jdk_116_method_1_code 7 (.iaload) 1 8 := ⟨by decide +kernel, rfl⟩
theorem d_jdk_116_method_1_8 : Dec jdk_116_method_1_code 8 (.istore_n 3) 1 9 := ⟨by decide +kernel, rfl⟩
theorem d_jdk_116_method_1_9 : Dec jdk_116_method_1_code 9 (.iload_n 3) 1 10 := ⟨by decide +kernel, rfl⟩
theorem d_jdk_116_method_1_10 : Dec jdk_116_method_1_code 10 (.ireturn) 1 11 := ⟨by decide +kernel, rfl⟩
set_option maxRecDepth 65536 in
set_option maxHeartbeats 40000000 in
theorem c_prop (l : Launch) (Z : State) (a0 : Array Value) (hw : ∀ d ∈ tables_1, d.before a0 Z = true) (hE : EW Z a0 EL0) {n0 : Nat} {h0 : Heap} (hO : Old Z n0 h0) (hL : Lat Z) {t : Addr} {x : Int32} (hx : ¬ x < 0 ∧ ¬ (255 : Int32) < x) :
    Ctr NW EL0 n0 Z [] l (⟨"java/lang/CharacterDataLatin1", "getProperties", "(I)I"⟩ : MethodName) jdk_116_method_1_code 4 (some .int) ({ frames := 0, cells := 0, slots := 0, locals := 0 } : Room) #[.ref t, .int x] h0 (RV fun w h => ∃ z : Int32, w = .int z ∧ ((z &&& 28672 = 16384) ↔ wsP x) ∧ h0 = h) := by
  refine Ctr.body (plainFor_of_name pn_2) hE hO (fun x q => nomatch q) (L0 := #[.val (.ref t), .val (.int x), .unset, .unset]) (fun m => by first | (simp [entryFrame, mkF, argsToLocals, Value.category, maxLocals]; done) | rfl) ?_
  intro p e s m below meth c T0 W0
  obtain ⟨ins, D, -, -, SA, cl, AA, hA⟩ := id hL
  obtain ⟨k, hk, rfl⟩ := ch_cases hx
  refine Go.iload_n W0.cx d_jdk_116_method_1_0 (v := (Int32.ofNat k)) rfl ?_
  refine Go.i2c W0.cx d_jdk_116_method_1_1 ?_
  refine Go.top (i2c_ch hx) ?_
  refine Go.istore_n W0.cx d_jdk_116_method_1_2 (L' := #[.val (.ref t), .val (.int (Int32.ofNat k)), .val (.int (Int32.ofNat k)), .unset]) rfl ?_
  refine Go.gets W0 d_jdk_116_method_1_3 (wd hw 129 rfl) Via.refl SA ?_
  intro T1 W1
  refine Go.iload_n W1.cx d_jdk_116_method_1_6 (v := (Int32.ofNat k)) rfl ?_
  refine Go.ialoadAt W1 k d_jdk_116_method_1_7 (AA.ext hO.2) rfl (by omega) (v := .int (TBL.getD k 0)) (hA k hk) ?_
  refine Go.istore_n W1.cx d_jdk_116_method_1_8 (L' := #[.val (.ref t), .val (.int (Int32.ofNat k)), .val (.int (Int32.ofNat k)), .val (.int (TBL.getD k 0))]) rfl ?_
  refine Go.iload_n W1.cx d_jdk_116_method_1_9 (v := (TBL.getD k 0)) rfl ?_
  exact Go.iret W1 d_jdk_116_method_1_10 (by simp) rfl (by decide) (by decide) ⟨_, rfl, _, rfl, tbl_ws ⟨k, hk⟩, rfl⟩
theorem d_jdk_116_method_26_0 : Dec jdk_116_method_26_code 0 (.aload_n 0) 1 1 := ⟨by decide +kernel, rfl⟩
theorem d_jdk_116_method_26_1 : Dec jdk_116_method_26_code 1 (.iload_n 1) 1 2 := ⟨by decide +kernel, rfl⟩
theorem d_jdk_116_method_26_2 : Dec jdk_116_method_26_code 2 (.invokevirtual 15) 3 5 := ⟨by decide +kernel, rfl⟩
theorem pd_5 : parseMethodDescriptor "(I)I" = some ⟨[.int], some .int⟩ := by decide +kernel
theorem d_jdk_116_method_26_5 : Dec jdk_116_method_26_code 5 (.istore_n 2) 1 6 := ⟨by decide +kernel, rfl⟩
theorem d_jdk_116_method_26_6 : Dec jdk_116_method_26_code 6 (.iload_n 2) 1 7 := ⟨by decide +kernel, rfl⟩
theorem d_jdk_116_method_26_7 : Dec jdk_116_method_26_code 7 (.sipush 28672) 3 10 := ⟨by decide +kernel, rfl⟩
theorem d_jdk_116_method_26_10 : Dec jdk_116_method_26_code 10 (.iand) 1 11 := ⟨by decide +kernel, rfl⟩
theorem d_jdk_116_method_26_11 : Dec jdk_116_method_26_code 11 (.sipush 16384) 3 14 := ⟨by decide +kernel, rfl⟩
theorem d_jdk_116_method_26_14 : Dec jdk_116_method_26_code 14 (.if_icmp .ne 7) 3 17 := ⟨by decide +kernel, rfl⟩
theorem d_jdk_116_method_26_21 : Dec jdk_116_method_26_code 21 (.iconst 0) 1 22 := ⟨by decide +kernel, rfl⟩
theorem d_jdk_116_method_26_22 : Dec jdk_116_method_26_code 22 (.ireturn) 1 23 := ⟨by decide +kernel, rfl⟩
theorem d_jdk_116_method_26_17 : Dec jdk_116_method_26_code 17 (.iconst 1) 1 18 := ⟨by decide +kernel, rfl⟩
theorem d_jdk_116_method_26_18 : Dec jdk_116_method_26_code 18 (.goto 4) 3 21 := ⟨by decide +kernel, rfl⟩
set_option maxRecDepth 65536 in
set_option maxHeartbeats 40000000 in
theorem c_isws (l : Launch) (Z : State) (a0 : Array Value) (hw : ∀ d ∈ tables_1, d.before a0 Z = true) (hE : EW Z a0 EL0) {n0 : Nat} {h0 : Heap} (hO : Old Z n0 h0) (hL : Lat Z) {t : Addr} (Et : Exa Z h0 t "java/lang/CharacterDataLatin1") {x : Int32} (hx : ¬ x < 0 ∧ ¬ (255 : Int32) < x) :
    Ctr NW EL0 n0 Z [] l (⟨"java/lang/CharacterDataLatin1", "isWhitespace", "(I)Z"⟩ : MethodName) jdk_116_method_26_code 3 (some .boolean) ({ frames := 1, cells := 0, slots := 0, locals := 15 } : Room) #[.ref t, .int x] h0 (RV fun w h => ∃ z : Int32, w = .int z ∧ Bo (wsP x) z ∧ h0 = h) := by
  refine Ctr.body (plainFor_of_name pn_2) hE hO (fun x q => nomatch q) (L0 := #[.val (.ref t), .val (.int x), .unset]) (fun m => by first | (simp [entryFrame, mkF, argsToLocals, Value.category, maxLocals]; done) | rfl) ?_
  intro p e s m below meth c T0 W0
  refine Go.aload_n W0.cx d_jdk_116_method_26_0 (v := (.ref t)) rfl rfl ?_
  refine Go.iload_n W0.cx d_jdk_116_method_26_1 (v := x) rfl ?_
  refine Go.invv1 W0 (Ctr.call (wt := 0) (c_prop l Z a0 hw hE W0.old hL (t := t) hx) W0.ew (wd hw 128 rfl) (wd hw 118 rfl) (by simp) (by decide) (by decide)) d_jdk_116_method_26_2 (wd hw 124 rfl) (wd hw 125 rfl) (wd hw 127 rfl) (wd hw 126 rfl) (by decide) Et pd_5 rfl rfl (rest := []) rfl (Nat.le_of_eq rfl) (cells' := 0) (slots' := 0) rfl rfl (by decide) (by decide) ?_
  rintro T1 h1 _ W1 z1 ⟨y1, rfl, P1, e1⟩
  subst e1
  refine Go.istore_n W1.cx d_jdk_116_method_26_5 (L' := #[.val (.ref t), .val (.int x), .val (.int y1)]) rfl ?_
  refine Go.iload_n W1.cx d_jdk_116_method_26_6 (v := y1) rfl ?_
  refine Go.sipush W1.cx d_jdk_116_method_26_7 (z := (28672 : Int32)) rfl ?_
  refine Go.iand W1.cx d_jdk_116_method_26_10 ?_
  refine Go.sipush W1.cx d_jdk_116_method_26_11 (z := (16384 : Int32)) rfl ?_
  refine Go.icne W1.cx d_jdk_116_method_26_14 (by decide) (q := 21) rfl (fun c1 => ?_) (fun c1 => ?_)
  · refine Go.iconst W1.cx d_jdk_116_method_26_21 (z := (0 : Int32)) rfl ?_
    exact Go.iret W1 d_jdk_116_method_26_22 (by simp) rfl (by decide) (by decide) ⟨_, rfl, _, rfl, Bo.ff (fun z => c1 (P1.mpr z)), rfl⟩
  · refine Go.iconst W1.cx d_jdk_116_method_26_17 (z := (1 : Int32)) rfl ?_
    refine Go.goto W1.cx d_jdk_116_method_26_18 (by decide) (q := 22) rfl ?_
    exact Go.iret W1 d_jdk_116_method_26_22 (by simp) rfl (by decide) (by decide) ⟨_, rfl, _, rfl, Bo.tt (P1.mp c1), rfl⟩
theorem d_jdk_43_method_37_0 : Dec jdk_43_method_37_code 0 (.aload_n 0) 1 1 := ⟨by decide +kernel, rfl⟩
theorem d_jdk_43_method_37_1 : Dec jdk_43_method_37_code 1 (.arraylength) 1 2 := ⟨by decide +kernel, rfl⟩
theorem d_jdk_43_method_37_2 : Dec jdk_43_method_37_code 2 (.istore_n 1) 1 3 := ⟨by decide +kernel, rfl⟩
theorem d_jdk_43_method_37_3 : Dec jdk_43_method_37_code 3 (.iconst 0) 1 4 := ⟨by decide +kernel, rfl⟩
theorem d_jdk_43_method_37_4 : Dec jdk_43_method_37_code 4 (.istore_n 2) 1 5 := ⟨by decide +kernel, rfl⟩
theorem d_jdk_43_method_37_5 : Dec jdk_43_method_37_code 5 (.iload_n 2) 1 6 := ⟨by decide +kernel, rfl⟩
theorem d_jdk_43_method_37_6 : Dec jdk_43_method_37_code 6 (.iload_n 1) 1 7 := ⟨by decide +kernel, rfl⟩
theorem d_jdk_43_method_37_7 : Dec jdk_43_method_37_code 7 (.if_icmp .ge 40) 3 10 := ⟨by decide +kernel, rfl⟩
theorem d_jdk_43_method_37_47 : Dec jdk_43_method_37_code 47 (.iload_n 2) 1 48 := ⟨by decide +kernel, rfl⟩
theorem d_jdk_43_method_37_48 : Dec jdk_43_method_37_code 48 (.ireturn) 1 49 := ⟨by decide +kernel, rfl⟩
theorem d_jdk_43_method_37_10 : Dec jdk_43_method_37_code 10 (.aload_n 0) 1 11 := ⟨by decide +kernel, rfl⟩
theorem d_jdk_43_method_37_11 : Dec jdk_43_method_37_code 11 (.iload_n 2) 1 12 := ⟨by decide +kernel, rfl⟩
theorem d_jdk_43_method_37_12 : Dec jdk_43_method_37_code 12 (.invokestatic 50) 3 15 := ⟨by decide +kernel, rfl⟩
theorem pd_6 : parseMethodDescriptor "([BI)C" = some ⟨[(.array .byte), .int], some .char⟩ := by decide +kernel
theorem d_jdk_43_method_37_15 : Dec jdk_43_method_37_code 15 (.istore_n 3) 1 16 := ⟨by decide +kernel, rfl⟩
theorem d_jdk_43_method_37_16 : Dec jdk_43_method_37_code 16 (.iload_n 3) 1 17 := ⟨by decide +kernel, rfl⟩
theorem d_jdk_43_method_37_17 : Dec jdk_43_method_37_code 17 (.bipush 32) 2 19 := ⟨by decide +kernel, rfl⟩
theorem d_jdk_43_method_37_19 : Dec jdk_43_method_37_code 19 (.if_icmp .eq 22) 3 22 := ⟨by decide +kernel, rfl⟩
theorem d_jdk_43_method_37_41 : Dec jdk_43_method_37_code 41 (.iinc 2 1) 3 44 := ⟨by decide +kernel, rfl⟩
theorem d_jdk_43_method_37_44 : Dec jdk_43_method_37_code 44 (.goto (-39)) 3 47 := ⟨by decide +kernel, rfl⟩
theorem d_jdk_43_method_37_22 : Dec jdk_43_method_37_code 22 (.iload_n 3) 1 23 := ⟨by decide +kernel, rfl⟩
theorem d_jdk_43_method_37_23 : Dec jdk_43_method_37_code 23 (.bipush 9) 2 25 := ⟨by decide +kernel, rfl⟩
theorem d_jdk_43_method_37_25 : Dec jdk_43_method_37_code 25 (.if_icmp .eq 16) 3 28 := ⟨by decide +kernel, rfl⟩
theorem d_jdk_43_method_37_28 : Dec jdk_43_method_37_code 28 (.getstatic 66) 3 31 := ⟨by decide +kernel, rfl⟩
theorem d_jdk_43_method_37_31 : Dec jdk_43_method_37_code 31 (.iload_n 3) 1 32 := ⟨by decide +kernel, rfl⟩
theorem d_jdk_43_method_37_32 : Dec jdk_43_method_37_code 32 (.invokevirtual 211) 3 35 := ⟨by decide +kernel, rfl⟩
theorem d_jdk_43_method_37_35 : Dec jdk_43_method_37_code 35 (.ifCond .ne 6) 3 38 := ⟨by decide +kernel, rfl⟩
theorem d_jdk_43_method_37_38 : Dec jdk_43_method_37_code 38 (.goto 9) 3 41 := ⟨by decide +kernel, rfl⟩
set_option maxRecDepth 65536 in
set_option maxHeartbeats 40000000 in
theorem c_inw (l : Launch) (Z : State) (a0 : Array Value) (hw : ∀ d ∈ tables_1, d.before a0 Z = true) (hE : EW Z a0 EL0) {n0 : Nat} {h0 : Heap} (hO : Old Z n0 h0) (hL : Lat Z) {b : Addr} {kb : ClassId} {cs : List Int32} (A : BArr Z h0 b kb cs) (hpc : ∀ c ∈ cs, ¬ c < 0 ∧ ¬ (255 : Int32) < c) (hcl : cs.length ≤ 4000) :
    Ctr NW EL0 n0 Z [] l (⟨"java/lang/StringLatin1", "indexOfNonWhitespace", "([B)I"⟩ : MethodName) jdk_43_method_37_code 4 (some .int) ({ frames := 2, cells := 0, slots := 0, locals := 29 } : Room) #[.ref b] h0 (RV fun w h => ∃ i : Nat, w = .int (Int32.ofNat i) ∧ i ≤ cs.length ∧ (∀ t, t < i → wsP (cs.getD t 0)) ∧ (i < cs.length → ¬ wsP (cs.getD i 0)) ∧ h0 = h) := by
  refine Ctr.body (plainFor_of_name pn_1) hE hO (fun x q => nomatch q) (L0 := #[.val (.ref b), .unset, .unset, .unset]) (fun m => by first | (simp [entryFrame, mkF, argsToLocals, Value.category, maxLocals]; done) | rfl) ?_
  intro p e s m below meth c T0 W0
  obtain ⟨ins, D, SI, EI, -⟩ := id hL
  refine Go.aload_n W0.cx d_jdk_43_method_37_0 (v := (.ref b)) rfl rfl ?_
  refine Go.alen W0 d_jdk_43_method_37_1 A ?_
  refine Go.istore_n W0.cx d_jdk_43_method_37_2 (L' := #[.val (.ref b), .val (.int (Int32.ofNat cs.length)), .unset, .unset]) rfl ?_
  refine Go.iconst W0.cx d_jdk_43_method_37_3 (z := (0 : Int32)) rfl ?_
  refine Go.istore_n W0.cx d_jdk_43_method_37_4 (L' := #[.val (.ref b), .val (.int (Int32.ofNat cs.length)), .val (.int (0 : Int32)), .unset]) rfl ?_
  have loop : ∀ j i, i + j = cs.length → i ≤ cs.length → (∀ t, t < i → wsP (cs.getD t 0)) → ∀ (T : State) (s3 : Slot), (s3 = .unset ∨ ∃ x : Int32, s3 = .val (.int x)) → Wk NW EL0 n0 Z a0 "java/lang/StringLatin1" "indexOfNonWhitespace" jdk_43_method_37_code 4 (some .int) p l e ({ frames := 2, cells := 0, slots := 0, locals := 29 } : Room) s m #[.ref b] below meth c T h0 [] 0 0 → Go p e below (Endp NW EL0 n0 Z below s ({ frames := 2, cells := 0, slots := 0, locals := 29 } : Room).cells ({ frames := 2, cells := 0, slots := 0, locals := 29 } : Room).slots (RV fun w h => ∃ i : Nat, w = .int (Int32.ofNat i) ∧ i ≤ cs.length ∧ (∀ t, t < i → wsP (cs.getD t 0)) ∧ (i < cs.length → ¬ wsP (cs.getD i 0)) ∧ h0 = h)) T (mkF m 5 #[.val (.ref b), .val (.int (Int32.ofNat cs.length)), .val (.int (Int32.ofNat i)), s3] []) := by
    intro j
    induction j with
    | zero =>
      intro i hi hile hin T101 s3 hs3 W101
      refine Go.iload_n W101.cx d_jdk_43_method_37_5 (v := (Int32.ofNat i)) rfl ?_
      refine Go.iload_n W101.cx d_jdk_43_method_37_6 (v := (Int32.ofNat cs.length)) rfl ?_
      refine Go.icge W101.cx d_jdk_43_method_37_7 (by decide) (q := 47) rfl (fun _ => ?_) (fun hh => (by first | exact absurd (show ¬ Int32.ofNat i < Int32.ofNat cs.length by rw [lt_nat (by omega) (by omega)]; omega) hh | exact absurd hh (show ¬ Int32.ofNat i < Int32.ofNat cs.length by rw [lt_nat (by omega) (by omega)]; omega)))
      refine Go.iload_n W101.cx d_jdk_43_method_37_47 (v := (Int32.ofNat i)) rfl ?_
      exact Go.iret W101 d_jdk_43_method_37_48 (by simp) rfl (by decide) (by decide) ⟨_, rfl, i, rfl, hile, hin, fun z => absurd z (by omega), rfl⟩
    | succ j ih =>
      intro i hi hile hin T101 s3 hs3 W101
      refine Go.iload_n W101.cx d_jdk_43_method_37_5 (v := (Int32.ofNat i)) rfl ?_
      refine Go.iload_n W101.cx d_jdk_43_method_37_6 (v := (Int32.ofNat cs.length)) rfl ?_
      refine Go.icge W101.cx d_jdk_43_method_37_7 (by decide) (q := 47) rfl (fun hh => (by first | exact absurd (show Int32.ofNat i < Int32.ofNat cs.length by rw [lt_nat (by omega) (by omega)]; omega) hh | exact absurd hh (show Int32.ofNat i < Int32.ofNat cs.length by rw [lt_nat (by omega) (by omega)]; omega))) (fun _ => ?_)
      refine Go.aload_n W101.cx d_jdk_43_method_37_10 (v := (.ref b)) rfl rfl ?_
      refine Go.iload_n W101.cx d_jdk_43_method_37_11 (v := (Int32.ofNat i)) rfl ?_
      refine Go.invs1 W101 (Ctr.call (wt := 0) (c_getc l Z a0 hw hE W101.old A hpc hcl (i := i) (by omega)) W101.ew (wd hw 116 rfl) (wd hw 50 rfl) (by simp) (by decide) (by decide)) d_jdk_43_method_37_12 (wd hw 114 rfl) (wd hw 115 rfl) (wd hw 50 rfl) (wd hw 116 rfl) (by decide) pd_6 rfl rfl (rest := []) rfl (Nat.le_of_eq rfl) (cells' := 0) (slots' := 0) rfl rfl (by decide) (by decide) ?_
      rintro T102 h102 _ W102 z102 ⟨rfl, e102⟩
      subst e102
      have hrg := getD_ch hpc (i := i) (by omega)
      obtain ⟨cc, hcc⟩ : ∃ z : Int32, z = (cs.getD i 0) := ⟨_, rfl⟩
      refine Go.top hcc.symm ?_
      rw [← hcc] at hrg
      refine Go.istore_n W102.cx d_jdk_43_method_37_15 (L' := #[.val (.ref b), .val (.int (Int32.ofNat cs.length)), .val (.int (Int32.ofNat i)), .val (.int cc)]) (by rcases hs3 with rfl | ⟨_, rfl⟩ <;> rfl) ?_
      refine Go.iload_n W102.cx d_jdk_43_method_37_16 (v := cc) rfl ?_
      refine Go.bipush W102.cx d_jdk_43_method_37_17 (z := (32 : Int32)) rfl ?_
      have J : wsP cc → ∀ (T : State), Wk NW EL0 n0 Z a0 "java/lang/StringLatin1" "indexOfNonWhitespace" jdk_43_method_37_code 4 (some .int) p l e ({ frames := 2, cells := 0, slots := 0, locals := 29 } : Room) s m #[.ref b] below meth c T h0 [] 0 0 → Go p e below (Endp NW EL0 n0 Z below s ({ frames := 2, cells := 0, slots := 0, locals := 29 } : Room).cells ({ frames := 2, cells := 0, slots := 0, locals := 29 } : Room).slots (RV fun w h => ∃ i : Nat, w = .int (Int32.ofNat i) ∧ i ≤ cs.length ∧ (∀ t, t < i → wsP (cs.getD t 0)) ∧ (i < cs.length → ¬ wsP (cs.getD i 0)) ∧ h0 = h)) T (mkF m 41 #[.val (.ref b), .val (.int (Int32.ofNat cs.length)), .val (.int (Int32.ofNat i)), .val (.int cc)] []) := by
        intro hws T201 W201
        refine Go.iinc W201.cx d_jdk_43_method_37_41 (z := (Int32.ofNat (i + 1))) (L' := #[.val (.ref b), .val (.int (Int32.ofNat cs.length)), .val (.int (Int32.ofNat (i + 1))), .val (.int cc)]) rfl (add1_nat i) rfl ?_
        refine Go.goto W201.cx d_jdk_43_method_37_44 (by decide) (q := 5) rfl ?_
        exact ih (i + 1) (by omega) (by omega) (fun t ht => by rcases Nat.lt_or_eq_of_le (Nat.le_of_lt_succ ht) with z | z; exact hin t z; rw [z, ← hcc]; exact hws) _ _ (Or.inr ⟨_, rfl⟩) W201
      refine Go.iceq W102.cx d_jdk_43_method_37_19 (by decide) (q := 41) rfl (fun d1 => ?_) (fun d1 => ?_)
      · exact J (by rw [d1]; decide) _ W102
      · refine Go.iload_n W102.cx d_jdk_43_method_37_22 (v := cc) rfl ?_
        refine Go.bipush W102.cx d_jdk_43_method_37_23 (z := (9 : Int32)) rfl ?_
        refine Go.iceq W102.cx d_jdk_43_method_37_25 (by decide) (q := 41) rfl (fun d2 => ?_) (fun d2 => ?_)
        · exact J (by rw [d2]; decide) _ W102
        · refine Go.gets W102 d_jdk_43_method_37_28 (wd hw 117 rfl) Via.refl SI ?_
          intro T103 W103
          refine Go.iload_n W103.cx d_jdk_43_method_37_31 (v := cc) rfl ?_
          refine Go.invv1 W103 (Ctr.call (wt := 0) (c_isws l Z a0 hw hE W103.old hL (EI.ext W103.old.2) hrg) W103.ew (wd hw 123 rfl) (wd hw 118 rfl) (by simp) (by decide) (by decide)) d_jdk_43_method_37_32 (wd hw 119 rfl) (wd hw 120 rfl) (wd hw 122 rfl) (wd hw 121 rfl) (by decide) (EI.ext W103.old.2) pd_0 rfl rfl (rest := []) rfl (Nat.le_of_eq rfl) (cells' := 0) (slots' := 0) rfl rfl (by decide) (by decide) ?_
          rintro T104 h104 _ W104 z104 ⟨y104, rfl, B104, e104⟩
          subst e104
          refine Go.ifne W104.cx d_jdk_43_method_37_35 (by decide) (q := 41) rfl (fun d3 => ?_) (fun d3 => ?_)
          · exact J (B104.yes d3) _ W104
          · refine Go.goto W104.cx d_jdk_43_method_37_38 (by decide) (q := 47) rfl ?_
            refine Go.iload_n W104.cx d_jdk_43_method_37_47 (v := (Int32.ofNat i)) rfl ?_
            exact Go.iret W104 d_jdk_43_method_37_48 (by simp) rfl (by decide) (by decide) ⟨_, rfl, i, rfl, hile, hin, fun _ => hcc ▸ B104.no d3, rfl⟩
  exact loop cs.length 0 (by omega) (Nat.zero_le _) (fun t ht => absurd ht (Nat.not_lt_zero _)) _ _ (Or.inl rfl) W0
theorem d_jdk_43_method_38_0 : Dec jdk_43_method_38_code 0 (.aload_n 0) 1 1 := ⟨by decide +kernel, rfl⟩
theorem d_jdk_43_method_38_1 : Dec jdk_43_method_38_code 1 (.arraylength) 1 2 := ⟨by decide +kernel, rfl⟩
theorem d_jdk_43_method_38_2 : Dec jdk_43_method_38_code 2 (.istore_n 1) 1 3 := ⟨by decide +kernel, rfl⟩
theorem d_jdk_43_method_38_3 : Dec jdk_43_method_38_code 3 (.iload_n 1) 1 4 := ⟨by decide +kernel, rfl⟩
theorem d_jdk_43_method_38_4 : Dec jdk_43_method_38_code 4 (.istore_n 2) 1 5 := ⟨by decide +kernel, rfl⟩
theorem d_jdk_43_method_38_5 : Dec jdk_43_method_38_code 5 (.iconst 0) 1 6 := ⟨by decide +kernel, rfl⟩
theorem d_jdk_43_method_38_6 : Dec jdk_43_method_38_code 6 (.iload_n 2) 1 7 := ⟨by decide +kernel, rfl⟩
theorem d_jdk_43_method_38_7 : Dec jdk_43_method_38_code 7 (.if_icmp .ge 42) 3 10 := ⟨by decide +kernel, rfl⟩
theorem d_jdk_43_method_38_49 : Dec jdk_43_method_38_code 49 (.iload_n 2) 1 50 := ⟨by decide +kernel, rfl⟩
theorem d_jdk_43_method_38_50 : Dec jdk_43_method_38_code 50 (.ireturn) 1 51 := ⟨by decide +kernel, rfl⟩
theorem d_jdk_43_method_38_10 : Dec jdk_43_method_38_code 10 (.aload_n 0) 1 11 := ⟨by decide +kernel, rfl⟩
theorem d_jdk_43_method_38_11 : Dec jdk_43_method_38_code 11 (.iload_n 2) 1 12 := ⟨by decide +kernel, rfl⟩
theorem d_jdk_43_method_38_12 : Dec jdk_43_method_38_code 12 (.iconst 1) 1 13 := ⟨by decide +kernel, rfl⟩
theorem d_jdk_43_method_38_13 : Dec jdk_43_method_38_code 13 (.isub) 1 14 := ⟨by decide +kernel, rfl⟩
theorem d_jdk_43_method_38_14 : Dec jdk_43_method_38_code 14 (.invokestatic 50) 3 17 := ⟨by decide +kernel, rfl⟩
theorem d_jdk_43_method_38_17 : Dec jdk_43_method_38_code 17 (.istore_n 3) 1 18 := ⟨by decide +kernel, rfl⟩
theorem d_jdk_43_method_38_18 : Dec jdk_43_method_38_code 18 (.iload_n 3) 1 19 := ⟨by decide +kernel, rfl⟩
theorem d_jdk_43_method_38_19 : Dec jdk_43_method_38_code 19 (.bipush 32) 2 21 := ⟨by decide +kernel, rfl⟩
theorem d_jdk_43_method_38_21 : Dec jdk_43_method_38_code 21 (.if_icmp .eq 22) 3 24 := ⟨by decide +kernel, rfl⟩
theorem d_jdk_43_method_38_43 : Dec jdk_43_method_38_code 43 (.iinc 2 (-1)) 3 46 := ⟨by decide +kernel, rfl⟩
theorem d_jdk_43_method_38_46 : Dec jdk_43_method_38_code 46 (.goto (-41)) 3 49 := ⟨by decide +kernel, rfl⟩
theorem d_jdk_43_method_38_24 : Dec jdk_43_method_38_code 24 (.iload_n 3) 1 25 := ⟨by decide +kernel, rfl⟩
theorem d_jdk_43_method_38_25 : Dec jdk_43_method_38_code 25 (.bipush 9) 2 27 := ⟨by decide +kernel, rfl⟩
theorem d_jdk_43_method_38_27 : Dec jdk_43_method_38_code 27 (.if_icmp .eq 16) 3 30 := ⟨by decide +kernel, rfl⟩
theorem d_jdk_43_method_38_30 : Dec jdk_43_method_38_code 30 (.getstatic 66) 3 33 := ⟨by decide +kernel, rfl⟩
theorem d_jdk_43_method_38_33 : Dec jdk_43_method_38_code 33 (.iload_n 3) 1 34 := ⟨by decide +kernel, rfl⟩
theorem d_jdk_43_method_38_34 : Dec jdk_43_method_38_code 34 (.invokevirtual 211) 3 37 := ⟨by decide +kernel, rfl⟩
theorem d_jdk_43_method_38_37 : Dec jdk_43_method_38_code 37 (.ifCond .ne 6) 3 40 := ⟨by decide +kernel, rfl⟩
theorem d_jdk_43_method_38_40 : Dec jdk_43_method_38_code 40 (.goto 9) 3 43 := ⟨by decide +kernel, rfl⟩
set_option maxRecDepth 65536 in
set_option maxHeartbeats 40000000 in
theorem c_linw (l : Launch) (Z : State) (a0 : Array Value) (hw : ∀ d ∈ tables_1, d.before a0 Z = true) (hE : EW Z a0 EL0) {n0 : Nat} {h0 : Heap} (hO : Old Z n0 h0) (hL : Lat Z) {b : Addr} {kb : ClassId} {cs : List Int32} (A : BArr Z h0 b kb cs) (hpc : ∀ c ∈ cs, ¬ c < 0 ∧ ¬ (255 : Int32) < c) (hcl : cs.length ≤ 4000) :
    Ctr NW EL0 n0 Z [] l (⟨"java/lang/StringLatin1", "lastIndexOfNonWhitespace", "([B)I"⟩ : MethodName) jdk_43_method_38_code 4 (some .int) ({ frames := 2, cells := 0, slots := 0, locals := 29 } : Room) #[.ref b] h0 (RV fun w h => ∃ i : Nat, w = .int (Int32.ofNat i) ∧ i ≤ cs.length ∧ (∀ t, i ≤ t → t < cs.length → wsP (cs.getD t 0)) ∧ (0 < i → ¬ wsP (cs.getD (i - 1) 0)) ∧ h0 = h) := by
  refine Ctr.body (plainFor_of_name pn_1) hE hO (fun x q => nomatch q) (L0 := #[.val (.ref b), .unset, .unset, .unset]) (fun m => by first | (simp [entryFrame, mkF, argsToLocals, Value.category, maxLocals]; done) | rfl) ?_
  intro p e s m below meth c T0 W0
  obtain ⟨ins, D, SI, EI, -⟩ := id hL
  refine Go.aload_n W0.cx d_jdk_43_method_38_0 (v := (.ref b)) rfl rfl ?_
  refine Go.alen W0 d_jdk_43_method_38_1 A ?_
  refine Go.istore_n W0.cx d_jdk_43_method_38_2 (L' := #[.val (.ref b), .val (.int (Int32.ofNat cs.length)), .unset, .unset]) rfl ?_
  refine Go.iload_n W0.cx d_jdk_43_method_38_3 (v := (Int32.ofNat cs.length)) rfl ?_
  refine Go.istore_n W0.cx d_jdk_43_method_38_4 (L' := #[.val (.ref b), .val (.int (Int32.ofNat cs.length)), .val (.int (Int32.ofNat cs.length)), .unset]) rfl ?_
  have loop : ∀ j i, i = j → i ≤ cs.length → (∀ t, i ≤ t → t < cs.length → wsP (cs.getD t 0)) → ∀ (T : State) (s3 : Slot), (s3 = .unset ∨ ∃ x : Int32, s3 = .val (.int x)) → Wk NW EL0 n0 Z a0 "java/lang/StringLatin1" "lastIndexOfNonWhitespace" jdk_43_method_38_code 4 (some .int) p l e ({ frames := 2, cells := 0, slots := 0, locals := 29 } : Room) s m #[.ref b] below meth c T h0 [] 0 0 → Go p e below (Endp NW EL0 n0 Z below s ({ frames := 2, cells := 0, slots := 0, locals := 29 } : Room).cells ({ frames := 2, cells := 0, slots := 0, locals := 29 } : Room).slots (RV fun w h => ∃ i : Nat, w = .int (Int32.ofNat i) ∧ i ≤ cs.length ∧ (∀ t, i ≤ t → t < cs.length → wsP (cs.getD t 0)) ∧ (0 < i → ¬ wsP (cs.getD (i - 1) 0)) ∧ h0 = h)) T (mkF m 5 #[.val (.ref b), .val (.int (Int32.ofNat cs.length)), .val (.int (Int32.ofNat i)), s3] []) := by
    intro j
    induction j with
    | zero =>
      intro i hi hile hin T101 s3 hs3 W101
      refine Go.iconst W101.cx d_jdk_43_method_38_5 (z := (0 : Int32)) rfl ?_
      refine Go.iload_n W101.cx d_jdk_43_method_38_6 (v := (Int32.ofNat i)) rfl ?_
      refine Go.icge W101.cx d_jdk_43_method_38_7 (by decide) (q := 49) rfl (fun _ => ?_) (fun hh => (by first | exact absurd (show ¬ Int32.ofNat 0 < Int32.ofNat i by rw [lt_nat (by omega) (by omega)]; omega) hh | exact absurd hh (show ¬ Int32.ofNat 0 < Int32.ofNat i by rw [lt_nat (by omega) (by omega)]; omega)))
      refine Go.iload_n W101.cx d_jdk_43_method_38_49 (v := (Int32.ofNat i)) rfl ?_
      exact Go.iret W101 d_jdk_43_method_38_50 (by simp) rfl (by decide) (by decide) ⟨_, rfl, i, rfl, hile, hin, fun z => absurd z (by omega), rfl⟩
    | succ j ih =>
      intro i hi hile hin T101 s3 hs3 W101
      refine Go.iconst W101.cx d_jdk_43_method_38_5 (z := (0 : Int32)) rfl ?_
      refine Go.iload_n W101.cx d_jdk_43_method_38_6 (v := (Int32.ofNat i)) rfl ?_
      refine Go.icge W101.cx d_jdk_43_method_38_7 (by decide) (q := 49) rfl (fun hh => (by first | exact absurd (show Int32.ofNat 0 < Int32.ofNat i by rw [lt_nat (by omega) (by omega)]; omega) hh | exact absurd hh (show Int32.ofNat 0 < Int32.ofNat i by rw [lt_nat (by omega) (by omega)]; omega))) (fun _ => ?_)
      refine Go.aload_n W101.cx d_jdk_43_method_38_10 (v := (.ref b)) rfl rfl ?_
      refine Go.iload_n W101.cx d_jdk_43_method_38_11 (v := (Int32.ofNat i)) rfl ?_
      refine Go.iconst W101.cx d_jdk_43_method_38_12 (z := (1 : Int32)) rfl ?_
      refine Go.isub W101.cx d_jdk_43_method_38_13 ?_
      refine Go.top (sub1_nat (by omega) (by omega)) ?_
      refine Go.invs1 W101 (Ctr.call (wt := 0) (c_getc l Z a0 hw hE W101.old A hpc hcl (i := (i - 1)) (by omega)) W101.ew (wd hw 116 rfl) (wd hw 50 rfl) (by simp) (by decide) (by decide)) d_jdk_43_method_38_14 (wd hw 114 rfl) (wd hw 115 rfl) (wd hw 50 rfl) (wd hw 116 rfl) (by decide) pd_6 rfl rfl (rest := []) rfl (Nat.le_of_eq rfl) (cells' := 0) (slots' := 0) rfl rfl (by decide) (by decide) ?_
      rintro T102 h102 _ W102 z102 ⟨rfl, e102⟩
      subst e102
      have hrg := getD_ch hpc (i := (i - 1)) (by omega)
      obtain ⟨cc, hcc⟩ : ∃ z : Int32, z = (cs.getD (i - 1) 0) := ⟨_, rfl⟩
      refine Go.top hcc.symm ?_
      rw [← hcc] at hrg
      refine Go.istore_n W102.cx d_jdk_43_method_38_17 (L' := #[.val (.ref b), .val (.int (Int32.ofNat cs.length)), .val (.int (Int32.ofNat i)), .val (.int cc)]) (by rcases hs3 with rfl | ⟨_, rfl⟩ <;> rfl) ?_
      refine Go.iload_n W102.cx d_jdk_43_method_38_18 (v := cc) rfl ?_
      refine Go.bipush W102.cx d_jdk_43_method_38_19 (z := (32 : Int32)) rfl ?_
      have J : wsP cc → ∀ (T : State), Wk NW EL0 n0 Z a0 "java/lang/StringLatin1" "lastIndexOfNonWhitespace" jdk_43_method_38_code 4 (some .int) p l e ({ frames := 2, cells := 0, slots := 0, locals := 29 } : Room) s m #[.ref b] below meth c T h0 [] 0 0 → Go p e below (Endp NW EL0 n0 Z below s ({ frames := 2, cells := 0, slots := 0, locals := 29 } : Room).cells ({ frames := 2, cells := 0, slots := 0, locals := 29 } : Room).slots (RV fun w h => ∃ i : Nat, w = .int (Int32.ofNat i) ∧ i ≤ cs.length ∧ (∀ t, i ≤ t → t < cs.length → wsP (cs.getD t 0)) ∧ (0 < i → ¬ wsP (cs.getD (i - 1) 0)) ∧ h0 = h)) T (mkF m 43 #[.val (.ref b), .val (.int (Int32.ofNat cs.length)), .val (.int (Int32.ofNat i)), .val (.int cc)] []) := by
        intro hws T201 W201
        refine Go.iinc W201.cx d_jdk_43_method_38_43 (z := (Int32.ofNat (i - 1))) (L' := #[.val (.ref b), .val (.int (Int32.ofNat cs.length)), .val (.int (Int32.ofNat (i - 1))), .val (.int cc)]) rfl (dec1_nat (by omega) (by omega)) rfl ?_
        refine Go.goto W201.cx d_jdk_43_method_38_46 (by decide) (q := 5) rfl ?_
        exact ih (i - 1) (by omega) (by omega) (fun t h1 h2 => by rcases Nat.lt_or_ge t i with z | z; rw [show t = i - 1 by omega, ← hcc]; exact hws; exact hin t z h2) _ _ (Or.inr ⟨_, rfl⟩) W201
      refine Go.iceq W102.cx d_jdk_43_method_38_21 (by decide) (q := 43) rfl (fun d1 => ?_) (fun d1 => ?_)
      · exact J (by rw [d1]; decide) _ W102
      · refine Go.iload_n W102.cx d_jdk_43_method_38_24 (v := cc) rfl ?_
        refine Go.bipush W102.cx d_jdk_43_method_38_25 (z := (9 : Int32)) rfl ?_
        refine Go.iceq W102.cx d_jdk_43_method_38_27 (by decide) (q := 43) rfl (fun d2 => ?_) (fun d2 => ?_)
        · exact J (by rw [d2]; decide) _ W102
        · refine Go.gets W102 d_jdk_43_method_38_30 (wd hw 117 rfl) Via.refl SI ?_
          intro T103 W103
          refine Go.iload_n W103.cx d_jdk_43_method_38_33 (v := cc) rfl ?_
          refine Go.invv1 W103 (Ctr.call (wt := 0) (c_isws l Z a0 hw hE W103.old hL (EI.ext W103.old.2) hrg) W103.ew (wd hw 123 rfl) (wd hw 118 rfl) (by simp) (by decide) (by decide)) d_jdk_43_method_38_34 (wd hw 119 rfl) (wd hw 120 rfl) (wd hw 122 rfl) (wd hw 121 rfl) (by decide) (EI.ext W103.old.2) pd_0 rfl rfl (rest := []) rfl (Nat.le_of_eq rfl) (cells' := 0) (slots' := 0) rfl rfl (by decide) (by decide) ?_
          rintro T104 h104 _ W104 z104 ⟨y104, rfl, B104, e104⟩
          subst e104
          refine Go.ifne W104.cx d_jdk_43_method_38_37 (by decide) (q := 43) rfl (fun d3 => ?_) (fun d3 => ?_)
          · exact J (B104.yes d3) _ W104
          · refine Go.goto W104.cx d_jdk_43_method_38_40 (by decide) (q := 49) rfl ?_
            refine Go.iload_n W104.cx d_jdk_43_method_38_49 (v := (Int32.ofNat i)) rfl ?_
            exact Go.iret W104 d_jdk_43_method_38_50 (by simp) rfl (by decide) (by decide) ⟨_, rfl, i, rfl, hile, hin, fun _ => hcc ▸ B104.no d3, rfl⟩
  exact loop cs.length cs.length rfl (Nat.le_refl _) (fun t h1 h2 => absurd h1 (by omega)) _ _ (Or.inl rfl) W0
def low (c : Int32) : Int32 := if (¬ c < 65 ∧ ¬ 90 < c) ∨ (¬ c < 192 ∧ ¬ 222 < c ∧ ¬ c = 215) then c + 32 else c
theorem low1 : ∀ k : Fin 256, Int32.ofNat k.val < 65 → Int32.ofNat k.val = low (Int32.ofNat k.val) := by decide +kernel
theorem low2 : ∀ k : Fin 256, ¬ Int32.ofNat k.val < 65 → ¬ 122 < (Int32.ofNat k.val ||| 32) → (Int32.ofNat k.val ||| 32) = low (Int32.ofNat k.val) := by decide +kernel
theorem low3 : ∀ k : Fin 256, 122 < (Int32.ofNat k.val ||| 32) → (Int32.ofNat k.val ||| 32) < 224 ∨ 254 < (Int32.ofNat k.val ||| 32) ∨ (Int32.ofNat k.val ||| 32) = 247 → Int32.ofNat k.val = low (Int32.ofNat k.val) := by decide +kernel
theorem low4 : ∀ k : Fin 256, ¬ (Int32.ofNat k.val ||| 32) < 224 → ¬ 254 < (Int32.ofNat k.val ||| 32) → ¬ (Int32.ofNat k.val ||| 32) = 247 → (Int32.ofNat k.val ||| 32) = low (Int32.ofNat k.val) := by decide +kernel
theorem low_ch : ∀ k : Fin 256, ¬ low (Int32.ofNat k.val) < 0 ∧ ¬ (255 : Int32) < low (Int32.ofNat k.val) := by decide +kernel
theorem low_rg {x : Int32} (h : ¬ x < 0 ∧ ¬ (255 : Int32) < x) : ¬ low x < 0 ∧ ¬ (255 : Int32) < low x := by
  obtain ⟨k, hk, rfl⟩ := ch_cases h
  exact low_ch ⟨k, hk⟩
theorem d_jdk_116_method_20_0 : Dec jdk_116_method_20_code 0 (.iload_n 1) 1 1 := ⟨by decide +kernel, rfl⟩
theorem d_jdk_116_method_20_1 : Dec jdk_116_method_20_code 1 (.bipush 65) 2 3 := ⟨by decide +kernel, rfl⟩
theorem d_jdk_116_method_20_3 : Dec jdk_116_method_20_code 3 (.if_icmp .ge 5) 3 6 := ⟨by decide +kernel, rfl⟩
theorem d_jdk_116_method_20_8 : Dec jdk_116_method_20_code 8 (.iload_n 1) 1 9 := ⟨by decide +kernel, rfl⟩
theorem d_jdk_116_method_20_9 : Dec jdk_116_method_20_code 9 (.bipush 32) 2 11 := ⟨by decide +kernel, rfl⟩
theorem d_jdk_116_method_20_11 : Dec jdk_116_method_20_code 11 (.ior) 1 12 := ⟨by decide +kernel, rfl⟩
theorem d_jdk_116_method_20_12 : Dec jdk_116_method_20_code 12 (.istore_n 2) 1 13 := ⟨by decide +kernel, rfl⟩
theorem d_jdk_116_method_20_13 : Dec jdk_116_method_20_code 13 (.iload_n 2) 1 14 := ⟨by decide +kernel, rfl⟩
theorem d_jdk_116_method_20_14 : Dec jdk_116_method_20_code 14 (.bipush 122) 2 16 := ⟨by decide +kernel, rfl⟩
theorem d_jdk_116_method_20_16 : Dec jdk_116_method_20_code 16 (.if_icmp .le 24) 3 19 := ⟨by decide +kernel, rfl⟩
theorem d_jdk_116_method_20_40 : Dec jdk_116_method_20_code 40 (.iload_n 2) 1 41 := ⟨by decide +kernel, rfl⟩
theorem d_jdk_116_method_20_41 : Dec jdk_116_method_20_code 41 (.ireturn) 1 42 := ⟨by decide +kernel, rfl⟩
theorem d_jdk_116_method_20_19 : Dec jdk_116_method_20_code 19 (.iload_n 2) 1 20 := ⟨by decide +kernel, rfl⟩
theorem d_jdk_116_method_20_20 : Dec jdk_116_method_20_code 20 (.sipush 224) 3 23 := ⟨by decide +kernel, rfl⟩
theorem d_jdk_116_method_20_23 : Dec jdk_116_method_20_code 23 (.if_icmp .lt 19) 3 26 := ⟨by decide +kernel, rfl⟩
theorem d_jdk_116_method_20_42 : Dec jdk_116_method_20_code 42 (.iload_n 1) 1 43 := ⟨by decide +kernel, rfl⟩
theorem d_jdk_116_method_20_43 : Dec jdk_116_method_20_code 43 (.ireturn) 1 44 := ⟨by decide +kernel, rfl⟩
theorem d_jdk_116_method_20_26 : Dec jdk_116_method_20_code 26 (.iload_n 2) 1 27 := ⟨by decide +kernel, rfl⟩
theorem d_jdk_116_method_20_27 : Dec jdk_116_method_20_code 27 (.sipush 254) 3 30 := ⟨by decide +kernel, rfl⟩
theorem d_jdk_116_method_20_30 : Dec jdk_116_method_20_code 30 (.if_icmp .gt 12) 3 33 := ⟨by decide +kernel, rfl⟩
theorem d_jdk_116_method_20_33 : Dec jdk_116_method_20_code 33 (.iload_n 2) 1 34 := ⟨by decide +kernel, rfl⟩
theorem d_jdk_116_method_20_34 : Dec jdk_116_method_20_code 34 (.sipush 247) 3 37 := ⟨by decide +kernel, rfl⟩
theorem d_jdk_116_method_20_37 : Dec jdk_116_method_20_code 37 (.if_icmp .eq 5) 3 40 := ⟨by decide +kernel, rfl⟩
theorem d_jdk_116_method_20_6 : Dec jdk_116_method_20_code 6 (.iload_n 1) 1 7 := ⟨by decide +kernel, rfl⟩
theorem d_jdk_116_method_20_7 : Dec jdk_116_method_20_code 7 (.ireturn) 1 8 := ⟨by decide +kernel, rfl⟩
set_option maxRecDepth 65536 in
set_option maxHeartbeats 40000000 in
theorem c_low (l : Launch) (Z : State) (a0 : Array Value) (hw : ∀ d ∈ tables_1, d.before a0 Z = true) (hE : EW Z a0 EL0) {n0 : Nat} {h0 : Heap} (hO : Old Z n0 h0) {t : Addr} {x : Int32} (hx : ¬ x < 0 ∧ ¬ (255 : Int32) < x) :
    Ctr NW EL0 n0 Z [] l (⟨"java/lang/CharacterDataLatin1", "toLowerCase", "(I)I"⟩ : MethodName) jdk_116_method_20_code 3 (some .int) ({ frames := 0, cells := 0, slots := 0, locals := 0 } : Room) #[.ref t, .int x] h0 (RV fun w h => w = .int (low x) ∧ h0 = h) := by
  refine Ctr.body (plainFor_of_name pn_2) hE hO (fun x q => nomatch q) (L0 := #[.val (.ref t), .val (.int x), .unset]) (fun m => by first | (simp [entryFrame, mkF, argsToLocals, Value.category, maxLocals]; done) | rfl) ?_
  intro p e s m below meth c T0 W0
  obtain ⟨k, hk, rfl⟩ := ch_cases hx
  refine Go.iload_n W0.cx d_jdk_116_method_20_0 (v := (Int32.ofNat k)) rfl ?_
  refine Go.bipush W0.cx d_jdk_116_method_20_1 (z := (65 : Int32)) rfl ?_
  refine Go.icge W0.cx d_jdk_116_method_20_3 (by decide) (q := 8) rfl (fun c1 => ?_) (fun c1 => ?_)
  · refine Go.iload_n W0.cx d_jdk_116_method_20_8 (v := (Int32.ofNat k)) rfl ?_
    refine Go.bipush W0.cx d_jdk_116_method_20_9 (z := (32 : Int32)) rfl ?_
    refine Go.ior W0.cx d_jdk_116_method_20_11 ?_
    refine Go.istore_n W0.cx d_jdk_116_method_20_12 (L' := #[.val (.ref t), .val (.int (Int32.ofNat k)), .val (.int ((Int32.ofNat k) ||| (32 : Int32)))]) rfl ?_
    refine Go.iload_n W0.cx d_jdk_116_method_20_13 (v := ((Int32.ofNat k) ||| (32 : Int32))) rfl ?_
    refine Go.bipush W0.cx d_jdk_116_method_20_14 (z := (122 : Int32)) rfl ?_
    refine Go.icle W0.cx d_jdk_116_method_20_16 (by decide) (q := 40) rfl (fun c2 => ?_) (fun c2 => ?_)
    · refine Go.iload_n W0.cx d_jdk_116_method_20_40 (v := ((Int32.ofNat k) ||| (32 : Int32))) rfl ?_
      exact Go.iret W0 d_jdk_116_method_20_41 (by simp) rfl (by decide) (by decide) ⟨_, rfl, congrArg _ (low2 ⟨k, hk⟩ c1 c2), rfl⟩
    · refine Go.iload_n W0.cx d_jdk_116_method_20_19 (v := ((Int32.ofNat k) ||| (32 : Int32))) rfl ?_
      refine Go.sipush W0.cx d_jdk_116_method_20_20 (z := (224 : Int32)) rfl ?_
      refine Go.iclt W0.cx d_jdk_116_method_20_23 (by decide) (q := 42) rfl (fun c3 => ?_) (fun c3 => ?_)
      · refine Go.iload_n W0.cx d_jdk_116_method_20_42 (v := (Int32.ofNat k)) rfl ?_
        exact Go.iret W0 d_jdk_116_method_20_43 (by simp) rfl (by decide) (by decide) ⟨_, rfl, congrArg _ (low3 ⟨k, hk⟩ c2 (Or.inl c3)), rfl⟩
      · refine Go.iload_n W0.cx d_jdk_116_method_20_26 (v := ((Int32.ofNat k) ||| (32 : Int32))) rfl ?_
        refine Go.sipush W0.cx d_jdk_116_method_20_27 (z := (254 : Int32)) rfl ?_
        refine Go.icgt W0.cx d_jdk_116_method_20_30 (by decide) (q := 42) rfl (fun c4 => ?_) (fun c4 => ?_)
        · refine Go.iload_n W0.cx d_jdk_116_method_20_42 (v := (Int32.ofNat k)) rfl ?_
          exact Go.iret W0 d_jdk_116_method_20_43 (by simp) rfl (by decide) (by decide) ⟨_, rfl, congrArg _ (low3 ⟨k, hk⟩ c2 (Or.inr (Or.inl c4))), rfl⟩
        · refine Go.iload_n W0.cx d_jdk_116_method_20_33 (v := ((Int32.ofNat k) ||| (32 : Int32))) rfl ?_
          refine Go.sipush W0.cx d_jdk_116_method_20_34 (z := (247 : Int32)) rfl ?_
          refine Go.iceq W0.cx d_jdk_116_method_20_37 (by decide) (q := 42) rfl (fun c5 => ?_) (fun c5 => ?_)
          · refine Go.iload_n W0.cx d_jdk_116_method_20_42 (v := (Int32.ofNat k)) rfl ?_
            exact Go.iret W0 d_jdk_116_method_20_43 (by simp) rfl (by decide) (by decide) ⟨_, rfl, congrArg _ (low3 ⟨k, hk⟩ c2 (Or.inr (Or.inr c5))), rfl⟩
          · refine Go.iload_n W0.cx d_jdk_116_method_20_40 (v := ((Int32.ofNat k) ||| (32 : Int32))) rfl ?_
            exact Go.iret W0 d_jdk_116_method_20_41 (by simp) rfl (by decide) (by decide) ⟨_, rfl, congrArg _ (low4 ⟨k, hk⟩ c3 c4 c5), rfl⟩
  · refine Go.iload_n W0.cx d_jdk_116_method_20_6 (v := (Int32.ofNat k)) rfl ?_
    exact Go.iret W0 d_jdk_116_method_20_7 (by simp) rfl (by decide) (by decide) ⟨_, rfl, congrArg _ (low1 ⟨k, hk⟩ c1), rfl⟩
theorem pn_3 : plainName "java/util/Arrays" = true := by first | (simp [plainName, overriddenIn]; done) | decide +kernel
theorem d_jdk_65_method_131_0 : Dec jdk_65_method_131_code 0 (.iload_n 1) 1 1 := ⟨by decide +kernel, rfl⟩
theorem d_jdk_65_method_131_1 : Dec jdk_65_method_131_code 1 (.iload_n 0) 1 2 := ⟨by decide +kernel, rfl⟩
theorem d_jdk_65_method_131_2 : Dec jdk_65_method_131_code 2 (.if_icmp .ge 35) 3 5 := ⟨by decide +kernel, rfl⟩
theorem d_jdk_65_method_131_37 : Dec jdk_65_method_131_code 37 (.return_) 1 38 := ⟨by decide +kernel, rfl⟩
set_option maxRecDepth 65536 in
set_option maxHeartbeats 40000000 in
theorem c_ckl2 (l : Launch) (Z : State) (a0 : Array Value) (hw : ∀ d ∈ tables_1, d.before a0 Z = true) (hE : EW Z a0 EL0) {n0 : Nat} {h0 : Heap} (hO : Old Z n0 h0) {f n : Nat} (hn : f + n ≤ 4000) :
    Ctr NW EL0 n0 Z [] l (⟨"java/util/Arrays", "checkLength", "(II)V"⟩ : MethodName) jdk_65_method_131_code 2 none ({ frames := 0, cells := 0, slots := 0, locals := 0 } : Room) #[.int (Int32.ofNat f), .int (Int32.ofNat (f + n))] h0 (RN fun h => h0 = h) := by
  refine Ctr.body (plainFor_of_name pn_3) hE hO (fun x q => nomatch q) (L0 := #[.val (.int (Int32.ofNat f)), .val (.int (Int32.ofNat (f + n)))]) (fun m => by first | (simp [entryFrame, mkF, argsToLocals, Value.category, maxLocals]; done) | rfl) ?_
  intro p e s m below meth c T0 W0
  refine Go.iload_n W0.cx d_jdk_65_method_131_0 (v := (Int32.ofNat (f + n))) rfl ?_
  refine Go.iload_n W0.cx d_jdk_65_method_131_1 (v := (Int32.ofNat f)) rfl ?_
  refine Go.icge W0.cx d_jdk_65_method_131_2 (by decide) (q := 37) rfl (fun _ => ?_) (fun hh => (by first | exact absurd (show ¬ Int32.ofNat (f + n) < Int32.ofNat f by rw [lt_nat (by omega) (by omega)]; omega) hh | exact absurd hh (show ¬ Int32.ofNat (f + n) < Int32.ofNat f by rw [lt_nat (by omega) (by omega)]; omega)))
  exact Go.vret W0 d_jdk_65_method_131_37 (by decide) (by decide) ⟨rfl, rfl⟩
theorem d_jdk_29_method_69_9 : Dec jdk_29_method_69_code 9 (.iload_n 1) 1 10 := ⟨by decide +kernel, rfl⟩
set_option maxRecDepth 65536 in
set_option maxHeartbeats 40000000 in
theorem c_minN2 (l : Launch) (Z : State) (a0 : Array Value) (hw : ∀ d ∈ tables_1, d.before a0 Z = true) (hE : EW Z a0 EL0) {n0 : Nat} {h0 : Heap} (hO : Old Z n0 h0) {u n : Nat} (hn : n ≤ u) (hu : u ≤ 4000) :
    Ctr NW EL0 n0 Z [] l (⟨"java/lang/Math", "min", "(II)I"⟩ : MethodName) jdk_29_method_69_code 2 (some .int) ({ frames := 0, cells := 0, slots := 0, locals := 0 } : Room) #[.int (Int32.ofNat u), .int (Int32.ofNat n)] h0 (RV fun w h => w = .int (Int32.ofNat n) ∧ h0 = h) := by
  refine Ctr.body (by decide +kernel) hE hO (fun x q => nomatch q) (L0 := #[.val (.int (Int32.ofNat u)), .val (.int (Int32.ofNat n))]) (fun m => by first | (simp [entryFrame, mkF, argsToLocals, Value.category, maxLocals]; done) | rfl) ?_
  intro p e s m below meth c T0 W0
  refine Go.iload_n W0.cx d_jdk_29_method_69_0 (v := (Int32.ofNat u)) rfl ?_
  refine Go.iload_n W0.cx d_jdk_29_method_69_1 (v := (Int32.ofNat n)) rfl ?_
  refine Go.icgt W0.cx d_jdk_29_method_69_2 (by decide) (q := 9) rfl (fun c1 => ?_) (fun c1 => ?_)
  · refine Go.iload_n W0.cx d_jdk_29_method_69_9 (v := (Int32.ofNat n)) rfl ?_
    exact Go.iret W0 d_jdk_29_method_69_10 (by simp) rfl (by decide) (by decide) ⟨_, rfl, rfl, rfl⟩
  · refine Go.iload_n W0.cx d_jdk_29_method_69_5 (v := (Int32.ofNat u)) rfl ?_
    refine Go.goto W0.cx d_jdk_29_method_69_6 (by decide) (q := 10) rfl ?_
    exact Go.iret W0 d_jdk_29_method_69_10 (by simp) rfl (by decide) (by decide) ⟨_, rfl, by rw [show u = n from by have : ¬ n < u := fun z => c1 ((lt_nat (by omega) (by omega)).mpr z); omega], rfl⟩
theorem d_jdk_65_method_133_0 : Dec jdk_65_method_133_code 0 (.iload_n 1) 1 1 := ⟨by decide +kernel, rfl⟩
theorem d_jdk_65_method_133_1 : Dec jdk_65_method_133_code 1 (.iload_n 2) 1 2 := ⟨by decide +kernel, rfl⟩
theorem d_jdk_65_method_133_2 : Dec jdk_65_method_133_code 2 (.invokestatic 343) 3 5 := ⟨by decide +kernel, rfl⟩
theorem pd_7 : parseMethodDescriptor "(II)V" = some ⟨[.int, .int], none⟩ := by decide +kernel
theorem d_jdk_65_method_133_5 : Dec jdk_65_method_133_code 5 (.iload_n 2) 1 6 := ⟨by decide +kernel, rfl⟩
theorem d_jdk_65_method_133_6 : Dec jdk_65_method_133_code 6 (.iload_n 1) 1 7 := ⟨by decide +kernel, rfl⟩
theorem d_jdk_65_method_133_7 : Dec jdk_65_method_133_code 7 (.isub) 1 8 := ⟨by decide +kernel, rfl⟩
theorem d_jdk_65_method_133_8 : Dec jdk_65_method_133_code 8 (.istore_n 3) 1 9 := ⟨by decide +kernel, rfl⟩
theorem d_jdk_65_method_133_9 : Dec jdk_65_method_133_code 9 (.iload_n 3) 1 10 := ⟨by decide +kernel, rfl⟩
theorem d_jdk_65_method_133_10 : Dec jdk_65_method_133_code 10 (.newarray .byte) 2 12 := ⟨by decide +kernel, rfl⟩
theorem d_jdk_65_method_133_12 : Dec jdk_65_method_133_code 12 (.astore 4) 2 14 := ⟨by decide +kernel, rfl⟩
theorem d_jdk_65_method_133_14 : Dec jdk_65_method_133_code 14 (.aload_n 0) 1 15 := ⟨by decide +kernel, rfl⟩
theorem d_jdk_65_method_133_15 : Dec jdk_65_method_133_code 15 (.iload_n 1) 1 16 := ⟨by decide +kernel, rfl⟩
theorem d_jdk_65_method_133_16 : Dec jdk_65_method_133_code 16 (.aload 4) 2 18 := ⟨by decide +kernel, rfl⟩
theorem d_jdk_65_method_133_18 : Dec jdk_65_method_133_code 18 (.iconst 0) 1 19 := ⟨by decide +kernel, rfl⟩
theorem d_jdk_65_method_133_19 : Dec jdk_65_method_133_code 19 (.aload_n 0) 1 20 := ⟨by decide +kernel, rfl⟩
theorem d_jdk_65_method_133_20 : Dec jdk_65_method_133_code 20 (.arraylength) 1 21 := ⟨by decide +kernel, rfl⟩
theorem d_jdk_65_method_133_21 : Dec jdk_65_method_133_code 21 (.iload_n 1) 1 22 := ⟨by decide +kernel, rfl⟩
theorem d_jdk_65_method_133_22 : Dec jdk_65_method_133_code 22 (.isub) 1 23 := ⟨by decide +kernel, rfl⟩
theorem d_jdk_65_method_133_23 : Dec jdk_65_method_133_code 23 (.iload_n 3) 1 24 := ⟨by decide +kernel, rfl⟩
theorem d_jdk_65_method_133_24 : Dec jdk_65_method_133_code 24 (.invokestatic 304) 3 27 := ⟨by decide +kernel, rfl⟩
theorem d_jdk_65_method_133_27 : Dec jdk_65_method_133_code 27 (.invokestatic 150) 3 30 := ⟨by decide +kernel, rfl⟩
theorem d_jdk_65_method_133_30 : Dec jdk_65_method_133_code 30 (.aload 4) 2 32 := ⟨by decide +kernel, rfl⟩
theorem d_jdk_65_method_133_32 : Dec jdk_65_method_133_code 32 (.areturn) 1 33 := ⟨by decide +kernel, rfl⟩
set_option maxRecDepth 65536 in
set_option maxHeartbeats 40000000 in
theorem c_corb2 (l : Launch) (Z : State) (a0 : Array Value) (hw : ∀ d ∈ tables_1, d.before a0 Z = true) (hE : EW Z a0 EL0) {n0 : Nat} {h0 : Heap} (hO : Old Z n0 h0) {b : Addr} {kb : ClassId} {cs : List Int32} (A : BArr Z h0 b kb cs) (hcl : cs.length ≤ 4000) {f n : Nat} (hn : f + n ≤ cs.length) (hlt : n < cs.length) (hcap : n ≤ 8) :
    Ctr NW EL0 n0 Z [] l (⟨"java/util/Arrays", "copyOfRangeByte", "([BII)[B"⟩ : MethodName) jdk_65_method_133_code 5 (some (.array .byte)) ({ frames := 1, cells := 1, slots := 8, locals := 18 } : Room) #[.ref b, .int (Int32.ofNat f), .int (Int32.ofNat (f + n))] h0 (RV fun w h => ∃ r kr, w = .ref r ∧ Ext h0 h ∧ h0.size ≤ r ∧ BArr Z h r kr ((cs.drop f).take n)) := by
  refine Ctr.body (plainFor_of_name pn_3) hE hO (fun x q => nomatch q) (L0 := #[.val (.ref b), .val (.int (Int32.ofNat f)), .val (.int (Int32.ofNat (f + n))), .unset, .unset]) (fun m => by first | (simp [entryFrame, mkF, argsToLocals, Value.category, maxLocals]; done) | rfl) ?_
  intro p e s m below meth c T0 W0
  refine Go.iload_n W0.cx d_jdk_65_method_133_0 (v := (Int32.ofNat f)) rfl ?_
  refine Go.iload_n W0.cx d_jdk_65_method_133_1 (v := (Int32.ofNat (f + n))) rfl ?_
  refine Go.invs0 W0 (Ctr.call (wt := 0) (c_ckl2 l Z a0 hw hE W0.old (f := f) (n := n) (by omega)) W0.ew (wd hw 159 rfl) (wd hw 152 rfl) (by simp) (by decide) (by decide)) d_jdk_65_method_133_2 (wd hw 157 rfl) (wd hw 158 rfl) (wd hw 152 rfl) (wd hw 159 rfl) (by decide) pd_7 rfl rfl (rest := []) rfl (Nat.le_of_eq rfl) (cells' := 0) (slots' := 0) rfl rfl (by decide) (by decide) ?_
  rintro T1 h1 W1 z1 e1
  subst e1
  refine Go.iload_n W1.cx d_jdk_65_method_133_5 (v := (Int32.ofNat (f + n))) rfl ?_
  refine Go.iload_n W1.cx d_jdk_65_method_133_6 (v := (Int32.ofNat f)) rfl ?_
  refine Go.isub W1.cx d_jdk_65_method_133_7 ?_
  refine Go.top (show Int32.ofNat (f + n) - Int32.ofNat f = Int32.ofNat n by rw [sub_nat (by omega) (by omega)]; congr 1; omega) ?_
  refine Go.istore_n W1.cx d_jdk_65_method_133_8 (L' := #[.val (.ref b), .val (.int (Int32.ofNat f)), .val (.int (Int32.ofNat (f + n))), .val (.int (Int32.ofNat n)), .unset]) rfl ?_
  refine Go.iload_n W1.cx d_jdk_65_method_133_9 (v := (Int32.ofNat n)) rfl ?_
  refine Go.newarr W1 d_jdk_65_method_133_10 (wd hw 11 rfl) (z := (Int32.ofNat n)) (cap := 8) (by rw [Int32.lt_iff_toInt_lt, toInt_nat (by omega)]; show ¬ ((n : Int) < 0); omega) (by rw [clamp_nat (by omega)]; exact hcap) (by decide) (cells' := 1) (slots' := 8) rfl rfl (by decide) (by decide) ?_
  intro T2 h2 a2 ka2 g2 W2 E2 A2
  have V2 : BArr Z h2 a2 ka2 (List.replicate n 0) := BArr.of_new A2 (k := n) rfl rfl
  have A2b := A.ext E2
  refine Go.astore W2.cx d_jdk_65_method_133_12 (L' := #[.val (.ref b), .val (.int (Int32.ofNat f)), .val (.int (Int32.ofNat (f + n))), .val (.int (Int32.ofNat n)), .val (.ref a2)]) rfl rfl ?_
  refine Go.aload_n W2.cx d_jdk_65_method_133_14 (v := (.ref b)) rfl rfl ?_
  refine Go.iload_n W2.cx d_jdk_65_method_133_15 (v := (Int32.ofNat f)) rfl ?_
  refine Go.aload W2.cx d_jdk_65_method_133_16 (v := (.ref a2)) rfl rfl ?_
  refine Go.iconst W2.cx d_jdk_65_method_133_18 (z := (0 : Int32)) rfl ?_
  refine Go.aload_n W2.cx d_jdk_65_method_133_19 (v := (.ref b)) rfl rfl ?_
  refine Go.alen W2 d_jdk_65_method_133_20 A2b ?_
  refine Go.iload_n W2.cx d_jdk_65_method_133_21 (v := (Int32.ofNat f)) rfl ?_
  refine Go.isub W2.cx d_jdk_65_method_133_22 ?_
  refine Go.top (sub_nat (by omega) (by omega)) ?_
  refine Go.iload_n W2.cx d_jdk_65_method_133_23 (v := (Int32.ofNat n)) rfl ?_
  refine Go.invs1 W2 (Ctr.call (wt := 4) (c_minN2 l Z a0 hw hE W2.old (u := cs.length - f) (n := n) (by omega) (by omega)) W2.ew (wd hw 61 rfl) (wd hw 57 rfl) (by simp) (by decide) (by decide)) d_jdk_65_method_133_24 (wd hw 160 rfl) (wd hw 60 rfl) (wd hw 57 rfl) (wd hw 61 rfl) (by decide) pd_1 rfl rfl (rest := [(.int (0 : Int32)), (.ref a2), (.int (Int32.ofNat f)), (.ref b)]) rfl (Nat.le_of_eq rfl) (cells' := 1) (slots' := 8) rfl rfl (by decide) (by decide) ?_
  rintro T3 h3 _ W3 z3 ⟨rfl, e3⟩
  subst e3
  refine Go.acopyB W3 (sp := f) (nn := n) d_jdk_65_method_133_27 (wd hw 161 rfl) (wd hw 164 rfl) (wd hw 162 rfl) (wd hw 163 rfl) A2b V2 (by simp) (by omega) (by simp) (by omega) (by simp; omega) rfl (by decide) (wt := 0) (Nat.le_of_eq rfl) (by decide) ?_
  intro T4 h4 W4 K4 V4
  refine Go.aload W4.cx d_jdk_65_method_133_30 (v := (.ref a2)) rfl rfl ?_
  exact Go.aret W4 d_jdk_65_method_133_32 rfl rfl rfl (by decide) (by decide) ⟨_, rfl, _, _, rfl, ext_keep E2 K4 (all1 (Nat.le_of_eq g2.symm)), Nat.le_of_eq g2.symm, V4⟩
theorem d_jdk_65_method_132_0 : Dec jdk_65_method_132_code 0 (.iload_n 1) 1 1 := ⟨by decide +kernel, rfl⟩
theorem d_jdk_65_method_132_1 : Dec jdk_65_method_132_code 1 (.ifCond .ne 9) 3 4 := ⟨by decide +kernel, rfl⟩
theorem d_jdk_65_method_132_10 : Dec jdk_65_method_132_code 10 (.aload_n 0) 1 11 := ⟨by decide +kernel, rfl⟩
theorem d_jdk_65_method_132_11 : Dec jdk_65_method_132_code 11 (.iload_n 1) 1 12 := ⟨by decide +kernel, rfl⟩
theorem d_jdk_65_method_132_12 : Dec jdk_65_method_132_code 12 (.iload_n 2) 1 13 := ⟨by decide +kernel, rfl⟩
theorem d_jdk_65_method_132_13 : Dec jdk_65_method_132_code 13 (.invokestatic 339) 3 16 := ⟨by decide +kernel, rfl⟩
theorem pd_8 : parseMethodDescriptor "([BII)[B" = some ⟨[(.array .byte), .int, .int], some (.array .byte)⟩ := by decide +kernel
theorem d_jdk_65_method_132_16 : Dec jdk_65_method_132_code 16 (.areturn) 1 17 := ⟨by decide +kernel, rfl⟩
theorem d_jdk_65_method_132_4 : Dec jdk_65_method_132_code 4 (.iload_n 2) 1 5 := ⟨by decide +kernel, rfl⟩
theorem d_jdk_65_method_132_5 : Dec jdk_65_method_132_code 5 (.aload_n 0) 1 6 := ⟨by decide +kernel, rfl⟩
theorem d_jdk_65_method_132_6 : Dec jdk_65_method_132_code 6 (.arraylength) 1 7 := ⟨by decide +kernel, rfl⟩
theorem d_jdk_65_method_132_7 : Dec jdk_65_method_132_code 7 (.if_icmp .eq 10) 3 10 := ⟨by decide +kernel, rfl⟩
set_option maxRecDepth 65536 in
set_option maxHeartbeats 40000000 in
theorem c_cor2 (l : Launch) (Z : State) (a0 : Array Value) (hw : ∀ d ∈ tables_1, d.before a0 Z = true) (hE : EW Z a0 EL0) {n0 : Nat} {h0 : Heap} (hO : Old Z n0 h0) {b : Addr} {kb : ClassId} {cs : List Int32} (A : BArr Z h0 b kb cs) (hcl : cs.length ≤ 4000) {f n : Nat} (hn : f + n ≤ cs.length) (hlt : n < cs.length) (hcap : n ≤ 8) :
    Ctr NW EL0 n0 Z [] l (⟨"java/util/Arrays", "copyOfRange", "([BII)[B"⟩ : MethodName) jdk_65_method_132_code 3 (some (.array .byte)) ({ frames := 2, cells := 1, slots := 8, locals := 34 } : Room) #[.ref b, .int (Int32.ofNat f), .int (Int32.ofNat (f + n))] h0 (RV fun w h => ∃ r kr, w = .ref r ∧ Ext h0 h ∧ h0.size ≤ r ∧ BArr Z h r kr ((cs.drop f).take n)) := by
  refine Ctr.body (plainFor_of_name pn_3) hE hO (fun x q => nomatch q) (L0 := #[.val (.ref b), .val (.int (Int32.ofNat f)), .val (.int (Int32.ofNat (f + n)))]) (fun m => by first | (simp [entryFrame, mkF, argsToLocals, Value.category, maxLocals]; done) | rfl) ?_
  intro p e s m below meth c T0 W0
  refine Go.iload_n W0.cx d_jdk_65_method_132_0 (v := (Int32.ofNat f)) rfl ?_
  refine Go.ifne W0.cx d_jdk_65_method_132_1 (by decide) (q := 10) rfl (fun c1 => ?_) (fun c1 => ?_)
  · refine Go.aload_n W0.cx d_jdk_65_method_132_10 (v := (.ref b)) rfl rfl ?_
    refine Go.iload_n W0.cx d_jdk_65_method_132_11 (v := (Int32.ofNat f)) rfl ?_
    refine Go.iload_n W0.cx d_jdk_65_method_132_12 (v := (Int32.ofNat (f + n))) rfl ?_
    refine Go.invs1 W0 (Ctr.call (wt := 0) (c_corb2 l Z a0 hw hE W0.old A hcl hn hlt hcap) W0.ew (wd hw 156 rfl) (wd hw 152 rfl) (by simp) (by decide) (by decide)) d_jdk_65_method_132_13 (wd hw 154 rfl) (wd hw 155 rfl) (wd hw 152 rfl) (wd hw 156 rfl) (by decide) pd_8 rfl rfl (rest := []) rfl (Nat.le_of_eq rfl) (cells' := 1) (slots' := 8) rfl rfl (by decide) (by decide) ?_
    rintro T1 h1 _ W1 z1 ⟨r1, kr1, rfl, E1, l1, V1⟩
    exact Go.aret W1 d_jdk_65_method_132_16 rfl rfl rfl (by decide) (by decide) ⟨_, rfl, _, _, rfl, E1, l1, V1⟩
  · have hf0 : f = 0 := (eq0_nat (by omega)).mp c1
    refine Go.iload_n W0.cx d_jdk_65_method_132_4 (v := (Int32.ofNat (f + n))) rfl ?_
    refine Go.aload_n W0.cx d_jdk_65_method_132_5 (v := (.ref b)) rfl rfl ?_
    refine Go.alen W0 d_jdk_65_method_132_6 A ?_
    refine Go.iceq W0.cx d_jdk_65_method_132_7 (by decide) (q := 17) rfl (fun hh => (by first | exact absurd (show ¬ Int32.ofNat (f + n) = Int32.ofNat cs.length by rw [eq_nat (by omega) (by omega)]; omega) hh | exact absurd hh (show ¬ Int32.ofNat (f + n) = Int32.ofNat cs.length by rw [eq_nat (by omega) (by omega)]; omega))) (fun _ => ?_)
    refine Go.aload_n W0.cx d_jdk_65_method_132_10 (v := (.ref b)) rfl rfl ?_
    refine Go.iload_n W0.cx d_jdk_65_method_132_11 (v := (Int32.ofNat f)) rfl ?_
    refine Go.iload_n W0.cx d_jdk_65_method_132_12 (v := (Int32.ofNat (f + n))) rfl ?_
    refine Go.invs1 W0 (Ctr.call (wt := 0) (c_corb2 l Z a0 hw hE W0.old A hcl hn hlt hcap) W0.ew (wd hw 156 rfl) (wd hw 152 rfl) (by simp) (by decide) (by decide)) d_jdk_65_method_132_13 (wd hw 154 rfl) (wd hw 155 rfl) (wd hw 152 rfl) (wd hw 156 rfl) (by decide) pd_8 rfl rfl (rest := []) rfl (Nat.le_of_eq rfl) (cells' := 1) (slots' := 8) rfl rfl (by decide) (by decide) ?_
    rintro T2 h2 _ W2 z2 ⟨r2, kr2, rfl, E2, l2, V2⟩
    exact Go.aret W2 d_jdk_65_method_132_16 rfl rfl rfl (by decide) (by decide) ⟨_, rfl, _, _, rfl, E2, l2, V2⟩
theorem wS {a0 : Array Value} {Z : State} (hw : ∀ d ∈ tables_1, d.before a0 Z = true) : ∀ a ∈ Bundle.stringAtoms, a.before a0 Z = true := fun d hd => hw d ((by decide +kernel : ∀ d ∈ Bundle.stringAtoms, d ∈ tables_1) d hd)
theorem d_jdk_42_method_151_0 : Dec jdk_42_method_151_code 0 (.aload_n 0) 1 1 := ⟨by decide +kernel, rfl⟩
theorem d_jdk_42_method_151_1 : Dec jdk_42_method_151_code 1 (.invokespecial 1) 3 4 := ⟨by decide +kernel, rfl⟩
theorem d_jdk_42_method_151_4 : Dec jdk_42_method_151_code 4 (.aload_n 0) 1 5 := ⟨by decide +kernel, rfl⟩
theorem d_jdk_42_method_151_5 : Dec jdk_42_method_151_code 5 (.aload_n 1) 1 6 := ⟨by decide +kernel, rfl⟩
theorem d_jdk_42_method_151_6 : Dec jdk_42_method_151_code 6 (.putfield 9) 3 9 := ⟨by decide +kernel, rfl⟩
theorem d_jdk_42_method_151_9 : Dec jdk_42_method_151_code 9 (.aload_n 0) 1 10 := ⟨by decide +kernel, rfl⟩
theorem d_jdk_42_method_151_10 : Dec jdk_42_method_151_code 10 (.iload_n 2) 1 11 := ⟨by decide +kernel, rfl⟩
theorem d_jdk_42_method_151_11 : Dec jdk_42_method_151_code 11 (.putfield 15) 3 14 := ⟨by decide +kernel, rfl⟩
theorem d_jdk_42_method_151_14 : Dec jdk_42_method_151_code 14 (.return_) 1 15 := ⟨by decide +kernel, rfl⟩
set_option maxRecDepth 65536 in
set_option maxHeartbeats 40000000 in
theorem c_s151 (l : Launch) (Z : State) (a0 : Array Value) (hw : ∀ d ∈ tables_1, d.before a0 Z = true) (hE : EW Z a0 EL0) {n0 : Nat} {h0 : Heap} (hO : Old Z n0 h0) {b : Addr} {kb : ClassId} {cs : List Int32} (A : BArr Z h0 b kb cs) {y : Addr} (hy : n0 ≤ y) (N_x : NewS Z h0 y) (hb : b ≠ y) (hpc : ∀ c ∈ cs, ¬ c < 0 ∧ ¬ (255 : Int32) < c) (hcl : cs.length ≤ 4000) :
    Ctr NW EL0 n0 Z [y] l (⟨"java/lang/String", "<init>", "([BB)V"⟩ : MethodName) jdk_42_method_151_code 3 none ({ frames := 1, cells := 0, slots := 0, locals := 12 } : Room) #[.ref y, .ref b, .int 0] h0 (RN fun h => Keep h0 h [y] ∧ Str Z h y cs) := by
  refine Ctr.body (plainFor_of_name pn_0) hE hO (fun z q => by cases List.mem_singleton.mp q; exact ⟨hy, N_x.1.lt⟩) (L0 := #[.val (.ref y), .val (.ref b), .val (.int (0 : Int32))]) (fun m => by first | (simp [entryFrame, mkF, argsToLocals, Value.category, maxLocals]; done) | rfl) ?_
  intro p e s m below meth c T0 W0
  refine Go.aload_n W0.cx d_jdk_42_method_151_0 (v := (.ref y)) rfl rfl ?_
  refine Go.initObj W0 d_jdk_42_method_151_1 (wd hw 98 rfl) (wd hw 99 rfl) (wd hw 100 rfl) rfl (by decide) (wt := 0) rfl (by decide) ?_
  intro T1 W1
  refine Go.aload_n W1.cx d_jdk_42_method_151_4 (v := (.ref y)) rfl rfl ?_
  refine Go.aload_n W1.cx d_jdk_42_method_151_5 (v := (.ref b)) rfl rfl ?_
  refine Go.putf W1 d_jdk_42_method_151_6 (wd hw 37 rfl) Via.refl N_x.2.1 N_x.1 (Or.inr ⟨(wd hw 12 rfl), rfl, rfl⟩) (wd hw 10 rfl) (t := (.array .byte)) (by decide) (v' := (.ref b)) rfl rfl (by simp) ?_
  intro T2 h2 W2 R2
  have B2 := Arv.other A R2 hb
  have F2 := N_x.2.1.same R2
  have M2 := N_x.1.wr R2
  have C2 := N_x.2.2.other R2 (Or.inr (slot_ne (Or.inr (wd hw 13 rfl)) (Or.inr (wd hw 12 rfl)) (by decide) (t := .byte) (t' := .array .byte) (by decide) (by decide)))
  have Q2 : Keep h0 h2 [y] := (Keep.refl h0 [y]).wr R2 (Or.inl (by simp))
  refine Go.aload_n W2.cx d_jdk_42_method_151_9 (v := (.ref y)) rfl rfl ?_
  refine Go.iload_n W2.cx d_jdk_42_method_151_10 (v := (0 : Int32)) rfl ?_
  refine Go.putf W2 d_jdk_42_method_151_11 (wd hw 36 rfl) Via.refl C2 M2 (Or.inr ⟨(wd hw 13 rfl), rfl, rfl⟩) (wd hw 10 rfl) (t := .byte) (by decide) (v' := (.int 0)) rfl rfl (by simp) ?_
  intro T3 h3 W3 R3
  have F3 := F2.other R3 (Or.inr (slot_ne (Or.inr (wd hw 12 rfl)) (Or.inr (wd hw 13 rfl)) (by decide) (t := .array .byte) (t' := .byte) (by decide) (by decide)))
  have B3 := Arv.other B2 R3 hb
  exact Go.vret W3 d_jdk_42_method_151_14 (by decide) (by decide) ⟨rfl, Q2.wr R3 (Or.inl (by simp)), M2.wr R3, C2.same R3, ⟨b, kb, F3, B3⟩, hpc, hcl⟩
theorem ne_ge2 {x b : Addr} {h : Heap} (l : x < h.size) (g : h.size ≤ b) : b ≠ x := fun e => by subst e; exact absurd l (Nat.not_lt.mpr g)
theorem dt_ch {cs : List Int32} (h : ∀ c ∈ cs, ¬ c < 0 ∧ ¬ (255 : Int32) < c) (f n : Nat) : ∀ c ∈ (cs.drop f).take n, ¬ c < 0 ∧ ¬ (255 : Int32) < c := fun c q => h c (List.mem_of_mem_drop (List.mem_of_mem_take q))
theorem d_jdk_43_method_47_0 : Dec jdk_43_method_47_code 0 (.iload_n 2) 1 1 := ⟨by decide +kernel, rfl⟩
theorem d_jdk_43_method_47_1 : Dec jdk_43_method_47_code 1 (.ifCond .ne 6) 3 4 := ⟨by decide +kernel, rfl⟩
theorem d_jdk_43_method_47_7 : Dec jdk_43_method_47_code 7 (.new 1) 3 10 := ⟨by decide +kernel, rfl⟩
theorem d_jdk_43_method_47_10 : Dec jdk_43_method_47_code 10 (.dup) 1 11 := ⟨by decide +kernel, rfl⟩
theorem d_jdk_43_method_47_11 : Dec jdk_43_method_47_code 11 (.aload_n 0) 1 12 := ⟨by decide +kernel, rfl⟩
theorem d_jdk_43_method_47_12 : Dec jdk_43_method_47_code 12 (.iload_n 1) 1 13 := ⟨by decide +kernel, rfl⟩
theorem d_jdk_43_method_47_13 : Dec jdk_43_method_47_code 13 (.iload_n 1) 1 14 := ⟨by decide +kernel, rfl⟩
theorem d_jdk_43_method_47_14 : Dec jdk_43_method_47_code 14 (.iload_n 2) 1 15 := ⟨by decide +kernel, rfl⟩
theorem d_jdk_43_method_47_15 : Dec jdk_43_method_47_code 15 (.iadd) 1 16 := ⟨by decide +kernel, rfl⟩
theorem d_jdk_43_method_47_16 : Dec jdk_43_method_47_code 16 (.invokestatic 232) 3 19 := ⟨by decide +kernel, rfl⟩
theorem d_jdk_43_method_47_19 : Dec jdk_43_method_47_code 19 (.iconst 0) 1 20 := ⟨by decide +kernel, rfl⟩
theorem d_jdk_43_method_47_20 : Dec jdk_43_method_47_code 20 (.invokespecial 112) 3 23 := ⟨by decide +kernel, rfl⟩
theorem pd_9 : parseMethodDescriptor "([BB)V" = some ⟨[(.array .byte), .byte], none⟩ := by decide +kernel
theorem d_jdk_43_method_47_23 : Dec jdk_43_method_47_code 23 (.areturn) 1 24 := ⟨by decide +kernel, rfl⟩
theorem d_jdk_43_method_47_4 : Dec jdk_43_method_47_code 4 (.ldc 151) 2 6 := ⟨by decide +kernel, rfl⟩
theorem d_jdk_43_method_47_6 : Dec jdk_43_method_47_code 6 (.areturn) 1 7 := ⟨by decide +kernel, rfl⟩
set_option maxRecDepth 65536 in
set_option maxHeartbeats 40000000 in
theorem c_nstr (l : Launch) (Z : State) (a0 : Array Value) (hw : ∀ d ∈ tables_1, d.before a0 Z = true) (hE : EW Z a0 EL0) {n0 : Nat} {h0 : Heap} (hO : Old Z n0 h0) {b : Addr} {kb : ClassId} {cs : List Int32} (A : BArr Z h0 b kb cs) (hpc : ∀ c ∈ cs, ¬ c < 0 ∧ ¬ (255 : Int32) < c) (hcl : cs.length ≤ 4000) {f n : Nat} (hn : f + n ≤ cs.length) (hlt : n < cs.length) (hcap : n ≤ 8) :
    Ctr NW EL0 n0 Z [] l (⟨"java/lang/StringLatin1", "newString", "([BII)Ljava/lang/String;"⟩ : MethodName) jdk_43_method_47_code 3 (some (.object "java/lang/String")) ({ frames := 3, cells := 2, slots := 12, locals := 50 } : Room) #[.ref b, .int (Int32.ofNat f), .int (Int32.ofNat n)] h0 (RV fun w h => ∃ r, w = .ref r ∧ Ext h0 h ∧ Str Z h r ((cs.drop f).take n)) := by
  refine Ctr.body (plainFor_of_name pn_1) hE hO (fun x q => nomatch q) (L0 := #[.val (.ref b), .val (.int (Int32.ofNat f)), .val (.int (Int32.ofNat n))]) (fun m => by first | (simp [entryFrame, mkF, argsToLocals, Value.category, maxLocals]; done) | rfl) ?_
  intro p e s m below meth c T0 W0
  refine Go.iload_n W0.cx d_jdk_43_method_47_0 (v := (Int32.ofNat n)) rfl ?_
  refine Go.ifne W0.cx d_jdk_43_method_47_1 (by decide) (q := 7) rfl (fun c1 => ?_) (fun c1 => ?_)
  · refine Go.new W0 d_jdk_43_method_47_7 (wd hw 149 rfl) (wd hw 10 rfl) (wd hw 9 rfl) (cells' := 1) (slots' := 4) rfl rfl (by decide) (by decide) ?_
    intro T1 h1 a1 g1 W1 E1 A1 D1
    have N1 : NewS Z h1 a1 := ⟨A1, D1 (Or.inr (wd hw 12 rfl)) (t := .array .byte) (by decide), D1 (Or.inr (wd hw 13 rfl)) (t := .byte) (by decide)⟩
    refine Go.dup W1.cx d_jdk_43_method_47_10 rfl ?_
    refine Go.aload_n W1.cx d_jdk_43_method_47_11 (v := (.ref b)) rfl rfl ?_
    refine Go.iload_n W1.cx d_jdk_43_method_47_12 (v := (Int32.ofNat f)) rfl ?_
    refine Go.iload_n W1.cx d_jdk_43_method_47_13 (v := (Int32.ofNat f)) rfl ?_
    refine Go.iload_n W1.cx d_jdk_43_method_47_14 (v := (Int32.ofNat n)) rfl ?_
    refine Go.iadd W1.cx d_jdk_43_method_47_15 ?_
    refine Go.top (add_nat _ _) ?_
    refine Go.invs1 W1 (Ctr.call (wt := 2) (c_cor2 l Z a0 hw hE W1.old (A.ext E1) hcl hn hlt hcap) W1.ew (wd hw 153 rfl) (wd hw 152 rfl) (by simp) (by decide) (by decide)) d_jdk_43_method_47_16 (wd hw 150 rfl) (wd hw 151 rfl) (wd hw 152 rfl) (wd hw 153 rfl) (by decide) pd_8 rfl rfl (rest := [(.ref a1), (.ref a1)]) rfl (Nat.le_of_eq rfl) (cells' := 2) (slots' := 12) rfl rfl (by decide) (by decide) ?_
    rintro T2 h2 _ W2 z2 ⟨b2, kb2, rfl, E2, lb2, V2⟩
    refine Go.iconst W2.cx d_jdk_43_method_47_19 (z := (0 : Int32)) rfl ?_
    refine Go.invi W2 (Ctr.call (wt := 1) (c_s151 l Z a0 hw hE W2.old V2 (W2.mine (by simp)).1 (N1.ext E2) (ne_ge2 N1.1.lt lb2) (dt_ch hpc f n) (by rw [List.length_take, List.length_drop]; omega)) W2.ew (wd hw 167 rfl) (wd hw 9 rfl) (by simp) (by decide) (by decide)) d_jdk_43_method_47_20 rfl (wd hw 165 rfl) (wd hw 166 rfl) (wd hw 167 rfl) (by decide) pd_9 rfl rfl (rest := [(.ref a1)]) rfl (Nat.le_of_eq rfl) (cells' := 2) (slots' := 12) rfl rfl (by decide) (by decide) ?_
    rintro T3 h3 W3 z3 ⟨K3, S3⟩
    exact Go.aret W3 d_jdk_43_method_47_23 rfl rfl rfl (by decide) (by decide) ⟨_, rfl, _, rfl, ext_keep (ext_trans E1 E2) K3 (all1 (Nat.le_of_eq g1.symm)), S3⟩
  · have hn0 : n = 0 := (eq0_nat (by omega)).mp c1
    refine Go.ldcS W0 (fun q => q) d_jdk_43_method_47_4 (wd hw 73 rfl) (wS hw) (by decide) (cs := []) ⟨by decide, by decide +kernel⟩ (by decide) (by decide) (nn := 0) (by decide) (by decide) (cells' := 2) (slots' := 4) rfl rfl (by decide) (by decide) ?_
    intro T4 h4 l4 b4 kb4 W4 E4 A4 C4 V4 B4 X4 S4
    exact Go.aret W4 d_jdk_43_method_47_6 rfl rfl rfl (by decide) (by decide) ⟨_, rfl, _, rfl, E4, by rw [hn0, List.take_zero]; exact S4⟩
theorem pn_4 : plainName "jdk/internal/util/Preconditions" = true := by first | (simp [plainName, overriddenIn]; done) | decide +kernel
theorem d_jdk_41_method_12_0 : Dec jdk_41_method_12_code 0 (.iload_n 0) 1 1 := ⟨by decide +kernel, rfl⟩
theorem d_jdk_41_method_12_1 : Dec jdk_41_method_12_code 1 (.ifCond .lt 13) 3 4 := ⟨by decide +kernel, rfl⟩
theorem d_jdk_41_method_12_4 : Dec jdk_41_method_12_code 4 (.iload_n 0) 1 5 := ⟨by decide +kernel, rfl⟩
theorem d_jdk_41_method_12_5 : Dec jdk_41_method_12_code 5 (.iload_n 1) 1 6 := ⟨by decide +kernel, rfl⟩
theorem d_jdk_41_method_12_6 : Dec jdk_41_method_12_code 6 (.if_icmp .gt 8) 3 9 := ⟨by decide +kernel, rfl⟩
theorem d_jdk_41_method_12_9 : Dec jdk_41_method_12_code 9 (.iload_n 1) 1 10 := ⟨by decide +kernel, rfl⟩
theorem d_jdk_41_method_12_10 : Dec jdk_41_method_12_code 10 (.iload_n 2) 1 11 := ⟨by decide +kernel, rfl⟩
theorem d_jdk_41_method_12_11 : Dec jdk_41_method_12_code 11 (.if_icmp .le 11) 3 14 := ⟨by decide +kernel, rfl⟩
theorem d_jdk_41_method_12_22 : Dec jdk_41_method_12_code 22 (.iload_n 0) 1 23 := ⟨by decide +kernel, rfl⟩
theorem d_jdk_41_method_12_23 : Dec jdk_41_method_12_code 23 (.ireturn) 1 24 := ⟨by decide +kernel, rfl⟩
set_option maxRecDepth 65536 in
set_option maxHeartbeats 40000000 in
theorem c_cft (l : Launch) (Z : State) (a0 : Array Value) (hw : ∀ d ∈ tables_1, d.before a0 Z = true) (hE : EW Z a0 EL0) {n0 : Nat} {h0 : Heap} (hO : Old Z n0 h0) {f e1 n : Nat} (h1 : f ≤ e1) (h2 : e1 ≤ n) (hn : n ≤ 4000) {fm : Value} (hfm : fm = .null ∨ ∃ r, fm = .ref r) :
    Ctr NW EL0 n0 Z [] l (⟨"jdk/internal/util/Preconditions", "checkFromToIndex", "(IIILjava/util/function/BiFunction;)I"⟩ : MethodName) jdk_41_method_12_code 4 (some .int) ({ frames := 0, cells := 0, slots := 0, locals := 0 } : Room) #[.int (Int32.ofNat f), .int (Int32.ofNat e1), .int (Int32.ofNat n), fm] h0 (RV fun w h => w = .int (Int32.ofNat f) ∧ h0 = h) := by
  refine Ctr.body (plainFor_of_name pn_4) hE hO (fun x q => nomatch q) (L0 := #[.val (.int (Int32.ofNat f)), .val (.int (Int32.ofNat e1)), .val (.int (Int32.ofNat n)), .val fm]) (fun m => by rcases hfm with rfl | ⟨_, rfl⟩ <;> rfl) ?_
  intro p e s m below meth c T0 W0
  have hfr := (ref_cat hfm).1
  refine Go.iload_n W0.cx d_jdk_41_method_12_0 (v := (Int32.ofNat f)) rfl ?_
  refine Go.iflt W0.cx d_jdk_41_method_12_1 (by decide) (q := 14) rfl (fun hh => (by first | exact absurd (show ¬ Int32.ofNat f < Int32.ofNat 0 by rw [lt_nat (by omega) (by omega)]; omega) hh | exact absurd hh (show ¬ Int32.ofNat f < Int32.ofNat 0 by rw [lt_nat (by omega) (by omega)]; omega))) (fun _ => ?_)
  refine Go.iload_n W0.cx d_jdk_41_method_12_4 (v := (Int32.ofNat f)) rfl ?_
  refine Go.iload_n W0.cx d_jdk_41_method_12_5 (v := (Int32.ofNat e1)) rfl ?_
  refine Go.icgt W0.cx d_jdk_41_method_12_6 (by decide) (q := 14) rfl (fun hh => (by first | exact absurd (show ¬ Int32.ofNat e1 < Int32.ofNat f by rw [lt_nat (by omega) (by omega)]; omega) hh | exact absurd hh (show ¬ Int32.ofNat e1 < Int32.ofNat f by rw [lt_nat (by omega) (by omega)]; omega))) (fun _ => ?_)
  refine Go.iload_n W0.cx d_jdk_41_method_12_9 (v := (Int32.ofNat e1)) rfl ?_
  refine Go.iload_n W0.cx d_jdk_41_method_12_10 (v := (Int32.ofNat n)) rfl ?_
  refine Go.icle W0.cx d_jdk_41_method_12_11 (by decide) (q := 22) rfl (fun _ => ?_) (fun hh => (by first | exact absurd (show ¬ Int32.ofNat n < Int32.ofNat e1 by rw [lt_nat (by omega) (by omega)]; omega) hh | exact absurd hh (show ¬ Int32.ofNat n < Int32.ofNat e1 by rw [lt_nat (by omega) (by omega)]; omega)))
  refine Go.iload_n W0.cx d_jdk_41_method_12_22 (v := (Int32.ofNat f)) rfl ?_
  exact Go.iret W0 d_jdk_41_method_12_23 (by simp) rfl (by decide) (by decide) ⟨_, rfl, rfl, rfl⟩
theorem d_jdk_42_method_158_0 : Dec jdk_42_method_158_code 0 (.iload_n 0) 1 1 := ⟨by decide +kernel, rfl⟩
theorem d_jdk_42_method_158_1 : Dec jdk_42_method_158_code 1 (.iload_n 1) 1 2 := ⟨by decide +kernel, rfl⟩
theorem d_jdk_42_method_158_2 : Dec jdk_42_method_158_code 2 (.iload_n 2) 1 3 := ⟨by decide +kernel, rfl⟩
theorem d_jdk_42_method_158_3 : Dec jdk_42_method_158_code 3 (.getstatic 1053) 3 6 := ⟨by decide +kernel, rfl⟩
theorem d_jdk_42_method_158_6 : Dec jdk_42_method_158_code 6 (.invokestatic 1062) 3 9 := ⟨by decide +kernel, rfl⟩
theorem pd_10 : parseMethodDescriptor "(IIILjava/util/function/BiFunction;)I" = some ⟨[.int, .int, .int, (.object "java/util/function/BiFunction")], some .int⟩ := by decide +kernel
theorem d_jdk_42_method_158_9 : Dec jdk_42_method_158_code 9 (.pop) 1 10 := ⟨by decide +kernel, rfl⟩
theorem d_jdk_42_method_158_10 : Dec jdk_42_method_158_code 10 (.return_) 1 11 := ⟨by decide +kernel, rfl⟩
set_option maxRecDepth 65536 in
set_option maxHeartbeats 40000000 in
theorem c_cbe (l : Launch) (Z : State) (a0 : Array Value) (hw : ∀ d ∈ tables_1, d.before a0 Z = true) (hE : EW Z a0 EL0) {n0 : Nat} {h0 : Heap} (hO : Old Z n0 h0) (hG : Gl Z) {f e1 n : Nat} (h1 : f ≤ e1) (h2 : e1 ≤ n) (hn : n ≤ 4000) :
    Ctr NW EL0 n0 Z [] l (⟨"java/lang/String", "checkBoundsBeginEnd", "(III)V"⟩ : MethodName) jdk_42_method_158_code 3 none ({ frames := 1, cells := 0, slots := 0, locals := 15 } : Room) #[.int (Int32.ofNat f), .int (Int32.ofNat e1), .int (Int32.ofNat n)] h0 (RN fun h => h0 = h) := by
  refine Ctr.body (plainFor_of_name pn_0) hE hO (fun x q => nomatch q) (L0 := #[.val (.int (Int32.ofNat f)), .val (.int (Int32.ofNat e1)), .val (.int (Int32.ofNat n))]) (fun m => by first | (simp [entryFrame, mkF, argsToLocals, Value.category, maxLocals]; done) | rfl) ?_
  intro p e s m below meth c T0 W0
  obtain ⟨-, fm, O4, rf⟩ := id hG
  have hfm := ref_cases rf
  refine Go.iload_n W0.cx d_jdk_42_method_158_0 (v := (Int32.ofNat f)) rfl ?_
  refine Go.iload_n W0.cx d_jdk_42_method_158_1 (v := (Int32.ofNat e1)) rfl ?_
  refine Go.iload_n W0.cx d_jdk_42_method_158_2 (v := (Int32.ofNat n)) rfl ?_
  refine Go.gets W0 d_jdk_42_method_158_3 (wd hw 141 rfl) Via.refl O4 ?_
  intro T1 W1
  refine Go.invs1 W1 (Ctr.call (wt := 0) (c_cft l Z a0 hw hE W1.old h1 h2 hn hfm) W1.ew (wd hw 145 rfl) (wd hw 142 rfl) (by simp) (by decide) (by decide)) d_jdk_42_method_158_6 (wd hw 143 rfl) (wd hw 144 rfl) (wd hw 142 rfl) (wd hw 145 rfl) (by decide) pd_10 rfl rfl (rest := []) rfl (Nat.le_of_eq rfl) (cells' := 0) (slots' := 0) rfl rfl (by decide) (by decide) ?_
  rintro T2 h2 _ W2 z2 ⟨rfl, e2⟩
  subst e2
  refine Go.pop W2.cx d_jdk_42_method_158_9 rfl ?_
  exact Go.vret W2 d_jdk_42_method_158_10 (by decide) (by decide) ⟨rfl, rfl⟩
theorem d_jdk_42_method_92_0 : Dec jdk_42_method_92_code 0 (.aload_n 0) 1 1 := ⟨by decide +kernel, rfl⟩
theorem d_jdk_42_method_92_1 : Dec jdk_42_method_92_code 1 (.invokevirtual 505) 3 4 := ⟨by decide +kernel, rfl⟩
theorem d_jdk_42_method_92_4 : Dec jdk_42_method_92_code 4 (.istore_n 3) 1 5 := ⟨by decide +kernel, rfl⟩
theorem d_jdk_42_method_92_5 : Dec jdk_42_method_92_code 5 (.iload_n 1) 1 6 := ⟨by decide +kernel, rfl⟩
theorem d_jdk_42_method_92_6 : Dec jdk_42_method_92_code 6 (.iload_n 2) 1 7 := ⟨by decide +kernel, rfl⟩
theorem d_jdk_42_method_92_7 : Dec jdk_42_method_92_code 7 (.iload_n 3) 1 8 := ⟨by decide +kernel, rfl⟩
theorem d_jdk_42_method_92_8 : Dec jdk_42_method_92_code 8 (.invokestatic 521) 3 11 := ⟨by decide +kernel, rfl⟩
theorem pd_11 : parseMethodDescriptor "(III)V" = some ⟨[.int, .int, .int], none⟩ := by decide +kernel
theorem d_jdk_42_method_92_11 : Dec jdk_42_method_92_code 11 (.iload_n 1) 1 12 := ⟨by decide +kernel, rfl⟩
theorem d_jdk_42_method_92_12 : Dec jdk_42_method_92_code 12 (.ifCond .ne 10) 3 15 := ⟨by decide +kernel, rfl⟩
theorem d_jdk_42_method_92_22 : Dec jdk_42_method_92_code 22 (.iload_n 2) 1 23 := ⟨by decide +kernel, rfl⟩
theorem d_jdk_42_method_92_23 : Dec jdk_42_method_92_code 23 (.iload_n 1) 1 24 := ⟨by decide +kernel, rfl⟩
theorem d_jdk_42_method_92_24 : Dec jdk_42_method_92_code 24 (.isub) 1 25 := ⟨by decide +kernel, rfl⟩
theorem d_jdk_42_method_92_25 : Dec jdk_42_method_92_code 25 (.istore 4) 2 27 := ⟨by decide +kernel, rfl⟩
theorem d_jdk_42_method_92_27 : Dec jdk_42_method_92_code 27 (.aload_n 0) 1 28 := ⟨by decide +kernel, rfl⟩
theorem d_jdk_42_method_92_28 : Dec jdk_42_method_92_code 28 (.invokevirtual 492) 3 31 := ⟨by decide +kernel, rfl⟩
theorem d_jdk_42_method_92_31 : Dec jdk_42_method_92_code 31 (.ifCond .eq 16) 3 34 := ⟨by decide +kernel, rfl⟩
theorem d_jdk_42_method_92_34 : Dec jdk_42_method_92_code 34 (.aload_n 0) 1 35 := ⟨by decide +kernel, rfl⟩
theorem d_jdk_42_method_92_35 : Dec jdk_42_method_92_code 35 (.getfield 9) 3 38 := ⟨by decide +kernel, rfl⟩
theorem d_jdk_42_method_92_38 : Dec jdk_42_method_92_code 38 (.iload_n 1) 1 39 := ⟨by decide +kernel, rfl⟩
theorem d_jdk_42_method_92_39 : Dec jdk_42_method_92_code 39 (.iload 4) 2 41 := ⟨by decide +kernel, rfl⟩
theorem d_jdk_42_method_92_41 : Dec jdk_42_method_92_code 41 (.invokestatic 685) 3 44 := ⟨by decide +kernel, rfl⟩
theorem pd_12 : parseMethodDescriptor "([BII)Ljava/lang/String;" = some ⟨[(.array .byte), .int, .int], some (.object "java/lang/String")⟩ := by decide +kernel
theorem d_jdk_42_method_92_44 : Dec jdk_42_method_92_code 44 (.goto 13) 3 47 := ⟨by decide +kernel, rfl⟩
theorem d_jdk_42_method_92_57 : Dec jdk_42_method_92_code 57 (.areturn) 1 58 := ⟨by decide +kernel, rfl⟩
theorem d_jdk_42_method_92_15 : Dec jdk_42_method_92_code 15 (.iload_n 2) 1 16 := ⟨by decide +kernel, rfl⟩
theorem d_jdk_42_method_92_16 : Dec jdk_42_method_92_code 16 (.iload_n 3) 1 17 := ⟨by decide +kernel, rfl⟩
theorem d_jdk_42_method_92_17 : Dec jdk_42_method_92_code 17 (.if_icmp .ne 5) 3 20 := ⟨by decide +kernel, rfl⟩
set_option maxRecDepth 65536 in
set_option maxHeartbeats 40000000 in
theorem c_sub (l : Launch) (Z : State) (a0 : Array Value) (hw : ∀ d ∈ tables_1, d.before a0 Z = true) (hE : EW Z a0 EL0) {n0 : Nat} {h0 : Heap} (hO : Old Z n0 h0) (hG : Gl Z) {a : Addr} {cs : List Int32} (S : Str Z h0 a cs) {f e1 : Nat} (h1 : f ≤ e1) (h2 : e1 ≤ cs.length) (hlt : e1 - f < cs.length) (hcap : e1 - f ≤ 8) :
    Ctr NW EL0 n0 Z [] l (⟨"java/lang/String", "substring", "(II)Ljava/lang/String;"⟩ : MethodName) jdk_42_method_92_code 5 (some (.object "java/lang/String")) ({ frames := 4, cells := 2, slots := 12, locals := 64 } : Room) #[.ref a, .int (Int32.ofNat f), .int (Int32.ofNat e1)] h0 (RV fun w h => ∃ r, w = .ref r ∧ Ext h0 h ∧ Str Z h r ((cs.drop f).take (e1 - f))) := by
  refine Ctr.body (plainFor_of_name pn_0) hE hO (fun x q => nomatch q) (L0 := #[.val (.ref a), .val (.int (Int32.ofNat f)), .val (.int (Int32.ofNat e1)), .unset, .unset]) (fun m => by first | (simp [entryFrame, mkF, argsToLocals, Value.category, maxLocals]; done) | rfl) ?_
  intro p e s m below meth c T0 W0
  obtain ⟨-, -, ⟨b1, kb1, V1, B1⟩, hpc, hcl⟩ := id S
  refine Go.aload_n W0.cx d_jdk_42_method_92_0 (v := (.ref a)) rfl rfl ?_
  refine Go.invv1 W0 (strLen (wt := 0) W0.ew hw hG S (by decide) (by decide)) d_jdk_42_method_92_1 (wd hw 38 rfl) (wd hw 39 rfl) (wd hw 41 rfl) (wd hw 40 rfl) (by decide) S.exa pd_4 rfl rfl (rest := []) rfl (Nat.le_of_eq rfl) (cells' := 0) (slots' := 0) rfl rfl (by decide) (by decide) ?_
  rintro T1 h1 _ W1 z1 ⟨rfl, e1⟩
  subst e1
  refine Go.istore_n W1.cx d_jdk_42_method_92_4 (L' := #[.val (.ref a), .val (.int (Int32.ofNat f)), .val (.int (Int32.ofNat e1)), .val (.int (Int32.ofNat cs.length)), .unset]) rfl ?_
  refine Go.iload_n W1.cx d_jdk_42_method_92_5 (v := (Int32.ofNat f)) rfl ?_
  refine Go.iload_n W1.cx d_jdk_42_method_92_6 (v := (Int32.ofNat e1)) rfl ?_
  refine Go.iload_n W1.cx d_jdk_42_method_92_7 (v := (Int32.ofNat cs.length)) rfl ?_
  refine Go.invs0 W1 (Ctr.call (wt := 0) (c_cbe l Z a0 hw hE W1.old hG (f := f) (e1 := e1) (n := cs.length) h1 h2 hcl) W1.ew (wd hw 140 rfl) (wd hw 9 rfl) (by simp) (by decide) (by decide)) d_jdk_42_method_92_8 (wd hw 138 rfl) (wd hw 139 rfl) (wd hw 9 rfl) (wd hw 140 rfl) (by decide) pd_11 rfl rfl (rest := []) rfl (Nat.le_of_eq rfl) (cells' := 0) (slots' := 0) rfl rfl (by decide) (by decide) ?_
  rintro T2 h2 W2 z2 e2
  subst e2
  refine Go.iload_n W2.cx d_jdk_42_method_92_11 (v := (Int32.ofNat f)) rfl ?_
  refine Go.ifne W2.cx d_jdk_42_method_92_12 (by decide) (q := 22) rfl (fun c1 => ?_) (fun c1 => ?_)
  · refine Go.iload_n W2.cx d_jdk_42_method_92_22 (v := (Int32.ofNat e1)) rfl ?_
    refine Go.iload_n W2.cx d_jdk_42_method_92_23 (v := (Int32.ofNat f)) rfl ?_
    refine Go.isub W2.cx d_jdk_42_method_92_24 ?_
    refine Go.top (sub_nat (by omega) h1) ?_
    refine Go.istore W2.cx d_jdk_42_method_92_25 (L' := #[.val (.ref a), .val (.int (Int32.ofNat f)), .val (.int (Int32.ofNat e1)), .val (.int (Int32.ofNat cs.length)), .val (.int (Int32.ofNat (e1 - f)))]) rfl ?_
    refine Go.aload_n W2.cx d_jdk_42_method_92_27 (v := (.ref a)) rfl rfl ?_
    refine Go.invv1 W2 (Ctr.call (wt := 0) (c_lat1 l Z a0 hw hE W2.old hG S) W2.ew (wd hw 34 rfl) (wd hw 9 rfl) (by simp) (by decide) (by decide)) d_jdk_42_method_92_28 (wd hw 30 rfl) (wd hw 31 rfl) (wd hw 33 rfl) (wd hw 32 rfl) (by decide) S.exa pd_3 rfl rfl (rest := []) rfl (Nat.le_of_eq rfl) (cells' := 0) (slots' := 0) rfl rfl (by decide) (by decide) ?_
    rintro T3 h3 _ W3 z3 ⟨rfl, e3⟩
    subst e3
    refine Go.ifeq W3.cx d_jdk_42_method_92_31 (by decide) (q := 47) rfl (fun hh => (by first | exact absurd (by decide : ¬ (1 : Int32) = 0) hh | exact absurd hh (by decide : ¬ (1 : Int32) = 0))) (fun _ => ?_)
    refine Go.aload_n W3.cx d_jdk_42_method_92_34 (v := (.ref a)) rfl rfl ?_
    refine Go.getf W3 d_jdk_42_method_92_35 (wd hw 37 rfl) Via.refl V1 ?_
    intro T4 W4
    refine Go.iload_n W4.cx d_jdk_42_method_92_38 (v := (Int32.ofNat f)) rfl ?_
    refine Go.iload W4.cx d_jdk_42_method_92_39 (v := (Int32.ofNat (e1 - f))) rfl ?_
    refine Go.invs1 W4 (Ctr.call (wt := 0) (c_nstr l Z a0 hw hE W4.old B1 hpc hcl (f := f) (n := e1 - f) (by omega) hlt (by omega)) W4.ew (wd hw 148 rfl) (wd hw 50 rfl) (by simp) (by decide) (by decide)) d_jdk_42_method_92_41 (wd hw 146 rfl) (wd hw 147 rfl) (wd hw 50 rfl) (wd hw 148 rfl) (by decide) pd_12 rfl rfl (rest := []) rfl (Nat.le_of_eq rfl) (cells' := 2) (slots' := 12) rfl rfl (by decide) (by decide) ?_
    rintro T5 h5 _ W5 z5 ⟨r5, rfl, E5, S5⟩
    refine Go.goto W5.cx d_jdk_42_method_92_44 (by decide) (q := 57) rfl ?_
    exact Go.aret W5 d_jdk_42_method_92_57 rfl rfl rfl (by decide) (by decide) ⟨_, rfl, _, rfl, E5, S5⟩
  · have hf0 : f = 0 := (eq0_nat (by omega)).mp c1
    refine Go.iload_n W2.cx d_jdk_42_method_92_15 (v := (Int32.ofNat e1)) rfl ?_
    refine Go.iload_n W2.cx d_jdk_42_method_92_16 (v := (Int32.ofNat cs.length)) rfl ?_
    refine Go.icne W2.cx d_jdk_42_method_92_17 (by decide) (q := 22) rfl (fun _ => ?_) (fun hh => (by first | exact absurd (show ¬ Int32.ofNat e1 = Int32.ofNat cs.length by rw [eq_nat (by omega) (by omega)]; omega) hh | exact absurd hh (show ¬ Int32.ofNat e1 = Int32.ofNat cs.length by rw [eq_nat (by omega) (by omega)]; omega)))
    refine Go.iload_n W2.cx d_jdk_42_method_92_22 (v := (Int32.ofNat e1)) rfl ?_
    refine Go.iload_n W2.cx d_jdk_42_method_92_23 (v := (Int32.ofNat f)) rfl ?_
    refine Go.isub W2.cx d_jdk_42_method_92_24 ?_
    refine Go.top (sub_nat (by omega) h1) ?_
    refine Go.istore W2.cx d_jdk_42_method_92_25 (L' := #[.val (.ref a), .val (.int (Int32.ofNat f)), .val (.int (Int32.ofNat e1)), .val (.int (Int32.ofNat cs.length)), .val (.int (Int32.ofNat (e1 - f)))]) rfl ?_
    refine Go.aload_n W2.cx d_jdk_42_method_92_27 (v := (.ref a)) rfl rfl ?_
    refine Go.invv1 W2 (Ctr.call (wt := 0) (c_lat1 l Z a0 hw hE W2.old hG S) W2.ew (wd hw 34 rfl) (wd hw 9 rfl) (by simp) (by decide) (by decide)) d_jdk_42_method_92_28 (wd hw 30 rfl) (wd hw 31 rfl) (wd hw 33 rfl) (wd hw 32 rfl) (by decide) S.exa pd_3 rfl rfl (rest := []) rfl (Nat.le_of_eq rfl) (cells' := 0) (slots' := 0) rfl rfl (by decide) (by decide) ?_
    rintro T6 h6 _ W6 z6 ⟨rfl, e6⟩
    subst e6
    refine Go.ifeq W6.cx d_jdk_42_method_92_31 (by decide) (q := 47) rfl (fun hh => (by first | exact absurd (by decide : ¬ (1 : Int32) = 0) hh | exact absurd hh (by decide : ¬ (1 : Int32) = 0))) (fun _ => ?_)
    refine Go.aload_n W6.cx d_jdk_42_method_92_34 (v := (.ref a)) rfl rfl ?_
    refine Go.getf W6 d_jdk_42_method_92_35 (wd hw 37 rfl) Via.refl V1 ?_
    intro T7 W7
    refine Go.iload_n W7.cx d_jdk_42_method_92_38 (v := (Int32.ofNat f)) rfl ?_
    refine Go.iload W7.cx d_jdk_42_method_92_39 (v := (Int32.ofNat (e1 - f))) rfl ?_
    refine Go.invs1 W7 (Ctr.call (wt := 0) (c_nstr l Z a0 hw hE W7.old B1 hpc hcl (f := f) (n := e1 - f) (by omega) hlt (by omega)) W7.ew (wd hw 148 rfl) (wd hw 50 rfl) (by simp) (by decide) (by decide)) d_jdk_42_method_92_41 (wd hw 146 rfl) (wd hw 147 rfl) (wd hw 50 rfl) (wd hw 148 rfl) (by decide) pd_12 rfl rfl (rest := []) rfl (Nat.le_of_eq rfl) (cells' := 2) (slots' := 12) rfl rfl (by decide) (by decide) ?_
    rintro T8 h8 _ W8 z8 ⟨r8, rfl, E8, S8⟩
    refine Go.goto W8.cx d_jdk_42_method_92_44 (by decide) (q := 57) rfl ?_
    exact Go.aret W8 d_jdk_42_method_92_57 rfl rfl rfl (by decide) (by decide) ⟨_, rfl, _, rfl, E8, S8⟩
theorem d_jdk_43_method_39_0 : Dec jdk_43_method_39_code 0 (.aload_n 0) 1 1 := ⟨by decide +kernel, rfl⟩
theorem d_jdk_43_method_39_1 : Dec jdk_43_method_39_code 1 (.invokestatic 214) 3 4 := ⟨by decide +kernel, rfl⟩
theorem pd_13 : parseMethodDescriptor "([B)I" = some ⟨[(.array .byte)], some .int⟩ := by decide +kernel
theorem d_jdk_43_method_39_4 : Dec jdk_43_method_39_code 4 (.istore_n 1) 1 5 := ⟨by decide +kernel, rfl⟩
theorem d_jdk_43_method_39_5 : Dec jdk_43_method_39_code 5 (.iload_n 1) 1 6 := ⟨by decide +kernel, rfl⟩
theorem d_jdk_43_method_39_6 : Dec jdk_43_method_39_code 6 (.aload_n 0) 1 7 := ⟨by decide +kernel, rfl⟩
theorem d_jdk_43_method_39_7 : Dec jdk_43_method_39_code 7 (.arraylength) 1 8 := ⟨by decide +kernel, rfl⟩
theorem d_jdk_43_method_39_8 : Dec jdk_43_method_39_code 8 (.if_icmp .ne 6) 3 11 := ⟨by decide +kernel, rfl⟩
theorem d_jdk_43_method_39_14 : Dec jdk_43_method_39_code 14 (.aload_n 0) 1 15 := ⟨by decide +kernel, rfl⟩
theorem d_jdk_43_method_39_15 : Dec jdk_43_method_39_code 15 (.invokestatic 217) 3 18 := ⟨by decide +kernel, rfl⟩
theorem d_jdk_43_method_39_18 : Dec jdk_43_method_39_code 18 (.istore_n 2) 1 19 := ⟨by decide +kernel, rfl⟩
theorem d_jdk_43_method_39_19 : Dec jdk_43_method_39_code 19 (.iload_n 1) 1 20 := ⟨by decide +kernel, rfl⟩
theorem d_jdk_43_method_39_20 : Dec jdk_43_method_39_code 20 (.ifCond .gt 9) 3 23 := ⟨by decide +kernel, rfl⟩
theorem d_jdk_43_method_39_29 : Dec jdk_43_method_39_code 29 (.iconst 1) 1 30 := ⟨by decide +kernel, rfl⟩
theorem d_jdk_43_method_39_30 : Dec jdk_43_method_39_code 30 (.goto 4) 3 33 := ⟨by decide +kernel, rfl⟩
theorem d_jdk_43_method_39_34 : Dec jdk_43_method_39_code 34 (.istore_n 3) 1 35 := ⟨by decide +kernel, rfl⟩
theorem d_jdk_43_method_39_35 : Dec jdk_43_method_39_code 35 (.iload_n 3) 1 36 := ⟨by decide +kernel, rfl⟩
theorem d_jdk_43_method_39_36 : Dec jdk_43_method_39_code 36 (.ifCond .eq 14) 3 39 := ⟨by decide +kernel, rfl⟩
theorem d_jdk_43_method_39_39 : Dec jdk_43_method_39_code 39 (.aload_n 0) 1 40 := ⟨by decide +kernel, rfl⟩
theorem d_jdk_43_method_39_40 : Dec jdk_43_method_39_code 40 (.iload_n 1) 1 41 := ⟨by decide +kernel, rfl⟩
theorem d_jdk_43_method_39_41 : Dec jdk_43_method_39_code 41 (.iload_n 2) 1 42 := ⟨by decide +kernel, rfl⟩
theorem d_jdk_43_method_39_42 : Dec jdk_43_method_39_code 42 (.iload_n 1) 1 43 := ⟨by decide +kernel, rfl⟩
theorem d_jdk_43_method_39_43 : Dec jdk_43_method_39_code 43 (.isub) 1 44 := ⟨by decide +kernel, rfl⟩
theorem d_jdk_43_method_39_44 : Dec jdk_43_method_39_code 44 (.invokestatic 210) 3 47 := ⟨by decide +kernel, rfl⟩
theorem d_jdk_43_method_39_47 : Dec jdk_43_method_39_code 47 (.goto 4) 3 50 := ⟨by decide +kernel, rfl⟩
theorem d_jdk_43_method_39_51 : Dec jdk_43_method_39_code 51 (.areturn) 1 52 := ⟨by decide +kernel, rfl⟩
theorem d_jdk_43_method_39_23 : Dec jdk_43_method_39_code 23 (.iload_n 2) 1 24 := ⟨by decide +kernel, rfl⟩
theorem d_jdk_43_method_39_24 : Dec jdk_43_method_39_code 24 (.aload_n 0) 1 25 := ⟨by decide +kernel, rfl⟩
theorem d_jdk_43_method_39_25 : Dec jdk_43_method_39_code 25 (.arraylength) 1 26 := ⟨by decide +kernel, rfl⟩
theorem d_jdk_43_method_39_26 : Dec jdk_43_method_39_code 26 (.if_icmp .ge 7) 3 29 := ⟨by decide +kernel, rfl⟩
theorem d_jdk_43_method_39_33 : Dec jdk_43_method_39_code 33 (.iconst 0) 1 34 := ⟨by decide +kernel, rfl⟩
theorem d_jdk_43_method_39_50 : Dec jdk_43_method_39_code 50 (.aconst_null) 1 51 := ⟨by decide +kernel, rfl⟩
theorem d_jdk_43_method_39_11 : Dec jdk_43_method_39_code 11 (.ldc 151) 2 13 := ⟨by decide +kernel, rfl⟩
theorem d_jdk_43_method_39_13 : Dec jdk_43_method_39_code 13 (.areturn) 1 14 := ⟨by decide +kernel, rfl⟩
set_option maxRecDepth 65536 in
set_option maxHeartbeats 40000000 in
theorem c_l1strip (l : Launch) (Z : State) (a0 : Array Value) (hw : ∀ d ∈ tables_1, d.before a0 Z = true) (hE : EW Z a0 EL0) {n0 : Nat} {h0 : Heap} (hO : Old Z n0 h0) (hL : Lat Z) {b : Addr} {kb : ClassId} {cs : List Int32} (A : BArr Z h0 b kb cs) (hpc : ∀ c ∈ cs, ¬ c < 0 ∧ ¬ (255 : Int32) < c) (hcl : cs.length ≤ 4000) (hcap : cs.length ≤ 8) :
    Ctr NW EL0 n0 Z [] l (⟨"java/lang/StringLatin1", "strip", "([B)Ljava/lang/String;"⟩ : MethodName) jdk_43_method_39_code 4 (some (.object "java/lang/String")) ({ frames := 4, cells := 2, slots := 12, locals := 64 } : Room) #[.ref b] h0 (RV fun w h => ∃ i j : Nat, ((∀ t, t < i → wsP (cs.getD t 0)) ∧ (∀ t, j ≤ t → t < cs.length → wsP (cs.getD t 0)) ∧ ((i = cs.length ∧ j = i) ∨ (i < j ∧ j ≤ cs.length ∧ ¬ wsP (cs.getD i 0) ∧ ¬ wsP (cs.getD (j - 1) 0)))) ∧ Ext h0 h ∧ ((w = .null ∧ i = 0 ∧ j = cs.length) ∨ ∃ r, w = .ref r ∧ Str Z h r ((cs.drop i).take (j - i)))) := by
  refine Ctr.body (plainFor_of_name pn_1) hE hO (fun x q => nomatch q) (L0 := #[.val (.ref b), .unset, .unset, .unset]) (fun m => by first | (simp [entryFrame, mkF, argsToLocals, Value.category, maxLocals]; done) | rfl) ?_
  intro p e s m below meth c T0 W0
  refine Go.aload_n W0.cx d_jdk_43_method_39_0 (v := (.ref b)) rfl rfl ?_
  refine Go.invs1 W0 (Ctr.call (wt := 0) (c_inw l Z a0 hw hE W0.old hL A hpc hcl) W0.ew (wd hw 72 rfl) (wd hw 50 rfl) (by simp) (by decide) (by decide)) d_jdk_43_method_39_1 (wd hw 70 rfl) (wd hw 71 rfl) (wd hw 50 rfl) (wd hw 72 rfl) (by decide) pd_13 rfl rfl (rest := []) rfl (Nat.le_of_eq rfl) (cells' := 0) (slots' := 0) rfl rfl (by decide) (by decide) ?_
  rintro T1 h1 _ W1 z1 ⟨i, rfl, hi, hi1, hi2, e1⟩
  subst e1
  refine Go.istore_n W1.cx d_jdk_43_method_39_4 (L' := #[.val (.ref b), .val (.int (Int32.ofNat i)), .unset, .unset]) rfl ?_
  refine Go.iload_n W1.cx d_jdk_43_method_39_5 (v := (Int32.ofNat i)) rfl ?_
  refine Go.aload_n W1.cx d_jdk_43_method_39_6 (v := (.ref b)) rfl rfl ?_
  refine Go.alen W1 d_jdk_43_method_39_7 A ?_
  refine Go.icne W1.cx d_jdk_43_method_39_8 (by decide) (q := 14) rfl (fun c1 => ?_) (fun c1 => ?_)
  · have hil : i < cs.length := by have : ¬ i = cs.length := fun z => c1 ((eq_nat (by omega) (by omega)).mpr z); omega
    refine Go.aload_n W1.cx d_jdk_43_method_39_14 (v := (.ref b)) rfl rfl ?_
    refine Go.invs1 W1 (Ctr.call (wt := 0) (c_linw l Z a0 hw hE W1.old hL A hpc hcl) W1.ew (wd hw 170 rfl) (wd hw 50 rfl) (by simp) (by decide) (by decide)) d_jdk_43_method_39_15 (wd hw 168 rfl) (wd hw 169 rfl) (wd hw 50 rfl) (wd hw 170 rfl) (by decide) pd_13 rfl rfl (rest := []) rfl (Nat.le_of_eq rfl) (cells' := 0) (slots' := 0) rfl rfl (by decide) (by decide) ?_
    rintro T2 h2 _ W2 z2 ⟨j, rfl, hj, hj1, hj2, e2⟩
    subst e2
    have hij : i < j := Nat.lt_of_not_le (fun z => hi2 hil (hj1 i z hil))
    have hSP : (∀ t, t < i → wsP (cs.getD t 0)) ∧ (∀ t, j ≤ t → t < cs.length → wsP (cs.getD t 0)) ∧ ((i = cs.length ∧ j = i) ∨ (i < j ∧ j ≤ cs.length ∧ ¬ wsP (cs.getD i 0) ∧ ¬ wsP (cs.getD (j - 1) 0))) := ⟨hi1, hj1, Or.inr ⟨hij, hj, hi2 hil, hj2 (by omega)⟩⟩
    refine Go.istore_n W2.cx d_jdk_43_method_39_18 (L' := #[.val (.ref b), .val (.int (Int32.ofNat i)), .val (.int (Int32.ofNat j)), .unset]) rfl ?_
    refine Go.iload_n W2.cx d_jdk_43_method_39_19 (v := (Int32.ofNat i)) rfl ?_
    refine Go.ifgt W2.cx d_jdk_43_method_39_20 (by decide) (q := 29) rfl (fun c2 => ?_) (fun c2 => ?_)
    · have hi0 : 0 < i := (lt_nat (a := 0) (by omega) (by omega)).mp c2
      refine Go.iconst W2.cx d_jdk_43_method_39_29 (z := (1 : Int32)) rfl ?_
      refine Go.goto W2.cx d_jdk_43_method_39_30 (by decide) (q := 34) rfl ?_
      refine Go.istore_n W2.cx d_jdk_43_method_39_34 (L' := #[.val (.ref b), .val (.int (Int32.ofNat i)), .val (.int (Int32.ofNat j)), .val (.int (1 : Int32))]) rfl ?_
      refine Go.iload_n W2.cx d_jdk_43_method_39_35 (v := (1 : Int32)) rfl ?_
      refine Go.ifeq W2.cx d_jdk_43_method_39_36 (by decide) (q := 50) rfl (fun hh => (by first | exact absurd (by decide : ¬ (1 : Int32) = 0) hh | exact absurd hh (by decide : ¬ (1 : Int32) = 0))) (fun _ => ?_)
      refine Go.aload_n W2.cx d_jdk_43_method_39_39 (v := (.ref b)) rfl rfl ?_
      refine Go.iload_n W2.cx d_jdk_43_method_39_40 (v := (Int32.ofNat i)) rfl ?_
      refine Go.iload_n W2.cx d_jdk_43_method_39_41 (v := (Int32.ofNat j)) rfl ?_
      refine Go.iload_n W2.cx d_jdk_43_method_39_42 (v := (Int32.ofNat i)) rfl ?_
      refine Go.isub W2.cx d_jdk_43_method_39_43 ?_
      refine Go.top (sub_nat (by omega) (by omega)) ?_
      refine Go.invs1 W2 (Ctr.call (wt := 0) (c_nstr l Z a0 hw hE W2.old A hpc hcl (f := i) (n := j - i) (by omega) (by omega) (by omega)) W2.ew (wd hw 148 rfl) (wd hw 50 rfl) (by simp) (by decide) (by decide)) d_jdk_43_method_39_44 (wd hw 202 rfl) (wd hw 147 rfl) (wd hw 50 rfl) (wd hw 148 rfl) (by decide) pd_12 rfl rfl (rest := []) rfl (Nat.le_of_eq rfl) (cells' := 2) (slots' := 12) rfl rfl (by decide) (by decide) ?_
      rintro T3 h3 _ W3 z3 ⟨r3, rfl, E3, S3⟩
      refine Go.goto W3.cx d_jdk_43_method_39_47 (by decide) (q := 51) rfl ?_
      exact Go.aret W3 d_jdk_43_method_39_51 rfl rfl rfl (by decide) (by decide) ⟨_, rfl, i, j, hSP, E3, Or.inr ⟨_, rfl, S3⟩⟩
    · have hi0 : i = 0 := by have : ¬ 0 < i := fun z => c2 ((lt_nat (a := 0) (by omega) (by omega)).mpr z); omega
      refine Go.iload_n W2.cx d_jdk_43_method_39_23 (v := (Int32.ofNat j)) rfl ?_
      refine Go.aload_n W2.cx d_jdk_43_method_39_24 (v := (.ref b)) rfl rfl ?_
      refine Go.alen W2 d_jdk_43_method_39_25 A ?_
      refine Go.icge W2.cx d_jdk_43_method_39_26 (by decide) (q := 33) rfl (fun c3 => ?_) (fun c3 => ?_)
      · have hjl : j = cs.length := by have : ¬ j < cs.length := fun q => c3 ((lt_nat (by omega) (by omega)).mpr q); omega
        refine Go.iconst W2.cx d_jdk_43_method_39_33 (z := (0 : Int32)) rfl ?_
        refine Go.istore_n W2.cx d_jdk_43_method_39_34 (L' := #[.val (.ref b), .val (.int (Int32.ofNat i)), .val (.int (Int32.ofNat j)), .val (.int (0 : Int32))]) rfl ?_
        refine Go.iload_n W2.cx d_jdk_43_method_39_35 (v := (0 : Int32)) rfl ?_
        refine Go.ifeq W2.cx d_jdk_43_method_39_36 (by decide) (q := 50) rfl (fun _ => ?_) (fun hh => (by first | exact absurd (rfl : (0 : Int32) = 0) hh | exact absurd hh (rfl : (0 : Int32) = 0)))
        refine Go.aconst_null W2.cx d_jdk_43_method_39_50 ?_
        exact Go.aret W2 d_jdk_43_method_39_51 rfl rfl rfl (by decide) (by decide) ⟨_, rfl, i, j, hSP, ext_refl _, Or.inl ⟨rfl, hi0, hjl⟩⟩
      · have hjl : j < cs.length := (lt_nat (by omega) (by omega)).mp c3
        refine Go.iconst W2.cx d_jdk_43_method_39_29 (z := (1 : Int32)) rfl ?_
        refine Go.goto W2.cx d_jdk_43_method_39_30 (by decide) (q := 34) rfl ?_
        refine Go.istore_n W2.cx d_jdk_43_method_39_34 (L' := #[.val (.ref b), .val (.int (Int32.ofNat i)), .val (.int (Int32.ofNat j)), .val (.int (1 : Int32))]) rfl ?_
        refine Go.iload_n W2.cx d_jdk_43_method_39_35 (v := (1 : Int32)) rfl ?_
        refine Go.ifeq W2.cx d_jdk_43_method_39_36 (by decide) (q := 50) rfl (fun hh => (by first | exact absurd (by decide : ¬ (1 : Int32) = 0) hh | exact absurd hh (by decide : ¬ (1 : Int32) = 0))) (fun _ => ?_)
        refine Go.aload_n W2.cx d_jdk_43_method_39_39 (v := (.ref b)) rfl rfl ?_
        refine Go.iload_n W2.cx d_jdk_43_method_39_40 (v := (Int32.ofNat i)) rfl ?_
        refine Go.iload_n W2.cx d_jdk_43_method_39_41 (v := (Int32.ofNat j)) rfl ?_
        refine Go.iload_n W2.cx d_jdk_43_method_39_42 (v := (Int32.ofNat i)) rfl ?_
        refine Go.isub W2.cx d_jdk_43_method_39_43 ?_
        refine Go.top (sub_nat (by omega) (by omega)) ?_
        refine Go.invs1 W2 (Ctr.call (wt := 0) (c_nstr l Z a0 hw hE W2.old A hpc hcl (f := i) (n := j - i) (by omega) (by omega) (by omega)) W2.ew (wd hw 148 rfl) (wd hw 50 rfl) (by simp) (by decide) (by decide)) d_jdk_43_method_39_44 (wd hw 202 rfl) (wd hw 147 rfl) (wd hw 50 rfl) (wd hw 148 rfl) (by decide) pd_12 rfl rfl (rest := []) rfl (Nat.le_of_eq rfl) (cells' := 2) (slots' := 12) rfl rfl (by decide) (by decide) ?_
        rintro T4 h4 _ W4 z4 ⟨r4, rfl, E4, S4⟩
        refine Go.goto W4.cx d_jdk_43_method_39_47 (by decide) (q := 51) rfl ?_
        exact Go.aret W4 d_jdk_43_method_39_51 rfl rfl rfl (by decide) (by decide) ⟨_, rfl, i, j, hSP, E4, Or.inr ⟨_, rfl, S4⟩⟩
  · have hil : i = cs.length := (eq_nat (by omega) (by omega)).mp c1
    refine Go.ldcS W1 (fun q => q) d_jdk_43_method_39_11 (wd hw 73 rfl) (wS hw) (by decide) (cs := []) ⟨by decide, by decide +kernel⟩ (by decide) (by decide) (nn := 0) (by decide) (by decide) (cells' := 2) (slots' := 4) rfl rfl (by decide) (by decide) ?_
    intro T5 h5 l5 b5 kb5 W5 E5 A5 C5 V5 B5 X5 S5
    exact Go.aret W5 d_jdk_43_method_39_13 rfl rfl rfl (by decide) (by decide) ⟨_, rfl, i, i, ⟨hi1, fun t h1 h2 => absurd h1 (by omega), Or.inl ⟨hil, rfl⟩⟩, E5, Or.inr ⟨_, rfl, by rw [Nat.sub_self, List.take_zero]; exact S5⟩⟩
theorem d_jdk_42_method_114_0 : Dec jdk_42_method_114_code 0 (.aload_n 0) 1 1 := ⟨by decide +kernel, rfl⟩
theorem d_jdk_42_method_114_1 : Dec jdk_42_method_114_code 1 (.invokevirtual 492) 3 4 := ⟨by decide +kernel, rfl⟩
theorem d_jdk_42_method_114_4 : Dec jdk_42_method_114_code 4 (.ifCond .eq 13) 3 7 := ⟨by decide +kernel, rfl⟩
theorem d_jdk_42_method_114_7 : Dec jdk_42_method_114_code 7 (.aload_n 0) 1 8 := ⟨by decide +kernel, rfl⟩
theorem d_jdk_42_method_114_8 : Dec jdk_42_method_114_code 8 (.getfield 9) 3 11 := ⟨by decide +kernel, rfl⟩
theorem d_jdk_42_method_114_11 : Dec jdk_42_method_114_code 11 (.invokestatic 864) 3 14 := ⟨by decide +kernel, rfl⟩
theorem pd_14 : parseMethodDescriptor "([B)Ljava/lang/String;" = some ⟨[(.array .byte)], some (.object "java/lang/String")⟩ := by decide +kernel
theorem d_jdk_42_method_114_14 : Dec jdk_42_method_114_code 14 (.goto 10) 3 17 := ⟨by decide +kernel, rfl⟩
theorem d_jdk_42_method_114_24 : Dec jdk_42_method_114_code 24 (.astore_n 1) 1 25 := ⟨by decide +kernel, rfl⟩
theorem d_jdk_42_method_114_25 : Dec jdk_42_method_114_code 25 (.aload_n 1) 1 26 := ⟨by decide +kernel, rfl⟩
theorem d_jdk_42_method_114_26 : Dec jdk_42_method_114_code 26 (.ifnonnull 7) 3 29 := ⟨by decide +kernel, rfl⟩
theorem d_jdk_42_method_114_29 : Dec jdk_42_method_114_code 29 (.aload_n 0) 1 30 := ⟨by decide +kernel, rfl⟩
theorem d_jdk_42_method_114_30 : Dec jdk_42_method_114_code 30 (.goto 4) 3 33 := ⟨by decide +kernel, rfl⟩
theorem d_jdk_42_method_114_34 : Dec jdk_42_method_114_code 34 (.areturn) 1 35 := ⟨by decide +kernel, rfl⟩
theorem d_jdk_42_method_114_33 : Dec jdk_42_method_114_code 33 (.aload_n 1) 1 34 := ⟨by decide +kernel, rfl⟩
set_option maxRecDepth 65536 in
set_option maxHeartbeats 40000000 in
theorem c_strip (l : Launch) (Z : State) (a0 : Array Value) (hw : ∀ d ∈ tables_1, d.before a0 Z = true) (hE : EW Z a0 EL0) {n0 : Nat} {h0 : Heap} (hO : Old Z n0 h0) (hG : Gl Z) (hL : Lat Z) {a : Addr} {cs : List Int32} (S : Str Z h0 a cs) (hcap : cs.length ≤ 8) :
    Ctr NW EL0 n0 Z [] l (⟨"java/lang/String", "strip", "()Ljava/lang/String;"⟩ : MethodName) jdk_42_method_114_code 2 (some (.object "java/lang/String")) ({ frames := 5, cells := 2, slots := 12, locals := 79 } : Room) #[.ref a] h0 (RV fun w h => ∃ (i j : Nat) (r : Addr), w = .ref r ∧ ((∀ t, t < i → wsP (cs.getD t 0)) ∧ (∀ t, j ≤ t → t < cs.length → wsP (cs.getD t 0)) ∧ ((i = cs.length ∧ j = i) ∨ (i < j ∧ j ≤ cs.length ∧ ¬ wsP (cs.getD i 0) ∧ ¬ wsP (cs.getD (j - 1) 0)))) ∧ Ext h0 h ∧ Str Z h r ((cs.drop i).take (j - i))) := by
  refine Ctr.body (plainFor_of_name pn_0) hE hO (fun x q => nomatch q) (L0 := #[.val (.ref a), .unset]) (fun m => by first | (simp [entryFrame, mkF, argsToLocals, Value.category, maxLocals]; done) | rfl) ?_
  intro p e s m below meth c T0 W0
  obtain ⟨-, -, ⟨b1, kb1, V1, B1⟩, hpc, hcl⟩ := id S
  refine Go.aload_n W0.cx d_jdk_42_method_114_0 (v := (.ref a)) rfl rfl ?_
  refine Go.invv1 W0 (Ctr.call (wt := 0) (c_lat1 l Z a0 hw hE W0.old hG S) W0.ew (wd hw 34 rfl) (wd hw 9 rfl) (by simp) (by decide) (by decide)) d_jdk_42_method_114_1 (wd hw 30 rfl) (wd hw 31 rfl) (wd hw 33 rfl) (wd hw 32 rfl) (by decide) S.exa pd_3 rfl rfl (rest := []) rfl (Nat.le_of_eq rfl) (cells' := 0) (slots' := 0) rfl rfl (by decide) (by decide) ?_
  rintro T1 h1 _ W1 z1 ⟨rfl, e1⟩
  subst e1
  refine Go.ifeq W1.cx d_jdk_42_method_114_4 (by decide) (q := 17) rfl (fun hh => (by first | exact absurd (by decide : ¬ (1 : Int32) = 0) hh | exact absurd hh (by decide : ¬ (1 : Int32) = 0))) (fun _ => ?_)
  refine Go.aload_n W1.cx d_jdk_42_method_114_7 (v := (.ref a)) rfl rfl ?_
  refine Go.getf W1 d_jdk_42_method_114_8 (wd hw 37 rfl) Via.refl V1 ?_
  intro T2 W2
  refine Go.invs1 W2 (Ctr.call (wt := 0) (c_l1strip l Z a0 hw hE W2.old hL B1 hpc hcl hcap) W2.ew (wd hw 69 rfl) (wd hw 50 rfl) (by simp) (by decide) (by decide)) d_jdk_42_method_114_11 (wd hw 67 rfl) (wd hw 68 rfl) (wd hw 50 rfl) (wd hw 69 rfl) (by decide) pd_14 rfl rfl (rest := []) rfl (Nat.le_of_eq rfl) (cells' := 2) (slots' := 12) rfl rfl (by decide) (by decide) ?_
  rintro T3 h3 v3 W3 z3 ⟨i, j, hSP, E3, H3⟩
  rcases H3 with ⟨rfl, hi0, hj0⟩ | ⟨r, rfl, Sr⟩
  · refine Go.goto W3.cx d_jdk_42_method_114_14 (by decide) (q := 24) rfl ?_
    refine Go.astore_n W3.cx d_jdk_42_method_114_24 (L' := #[.val (.ref a), .val .null]) rfl rfl ?_
    refine Go.aload_n W3.cx d_jdk_42_method_114_25 (v := .null) rfl rfl ?_
    refine Go.ifnonnull_n W3.cx d_jdk_42_method_114_26 ?_
    refine Go.aload_n W3.cx d_jdk_42_method_114_29 (v := (.ref a)) rfl rfl ?_
    refine Go.goto W3.cx d_jdk_42_method_114_30 (by decide) (q := 34) rfl ?_
    exact Go.aret W3 d_jdk_42_method_114_34 rfl rfl rfl (by decide) (by decide) ⟨_, rfl, i, j, a, rfl, hSP, E3, by rw [hi0, hj0, List.drop_zero, Nat.sub_zero, List.take_length]; exact S.ext E3⟩
  · refine Go.goto W3.cx d_jdk_42_method_114_14 (by decide) (q := 24) rfl ?_
    refine Go.astore_n W3.cx d_jdk_42_method_114_24 (L' := #[.val (.ref a), .val (.ref r)]) rfl rfl ?_
    refine Go.aload_n W3.cx d_jdk_42_method_114_25 (v := (.ref r)) rfl rfl ?_
    refine Go.ifnonnull_y W3.cx d_jdk_42_method_114_26 (by decide) (q := 33) rfl ?_
    refine Go.aload_n W3.cx d_jdk_42_method_114_33 (v := (.ref r)) rfl rfl ?_
    exact Go.aret W3 d_jdk_42_method_114_34 rfl rfl rfl (by decide) (by decide) ⟨_, rfl, i, j, r, rfl, hSP, E3, Sr⟩
def Loc0 (Z : State) (loc lg : Addr) : Prop := ∃ bl : Addr, Sta Z Z.heap "java/util/Locale" "ROOT" "Ljava/util/Locale;" (.ref loc) ∧ Exa Z Z.heap loc "java/util/Locale" ∧ Fld Z Z.heap loc "java/util/Locale" "baseLocale" "Lsun/util/locale/BaseLocale;" (.ref bl) ∧ Exa Z Z.heap bl "sun/util/locale/BaseLocale" ∧ Fld Z Z.heap bl "sun/util/locale/BaseLocale" "language" "Ljava/lang/String;" (.ref lg) ∧ Str Z Z.heap lg []
theorem map_low_eq {cs : List Int32} (h : ∀ t, t < cs.length → cs.getD t 0 = low (cs.getD t 0)) : cs.map low = cs := by
  apply List.ext_getElem?
  intro i
  rw [List.getElem?_map]
  by_cases hi : i < cs.length
  · have := h i hi
    rw [List.getD_eq_getElem?_getD, List.getElem?_eq_getElem hi] at this
    rw [List.getElem?_eq_getElem hi]
    exact congrArg some this.symm
  · rw [List.getElem?_eq_none (by omega)]; rfl
theorem pn_5 : plainName "sun/util/locale/BaseLocale" = true := by first | (simp [plainName, overriddenIn]; done) | decide +kernel
theorem d_jdk_3003_method_5_0 : Dec jdk_3003_method_5_code 0 (.aload_n 0) 1 1 := ⟨by decide +kernel, rfl⟩
theorem d_jdk_3003_method_5_1 : Dec jdk_3003_method_5_code 1 (.getfield 19) 3 4 := ⟨by decide +kernel, rfl⟩
theorem d_jdk_3003_method_5_4 : Dec jdk_3003_method_5_code 4 (.areturn) 1 5 := ⟨by decide +kernel, rfl⟩
set_option maxRecDepth 65536 in
set_option maxHeartbeats 40000000 in
theorem c_blang (l : Launch) (Z : State) (a0 : Array Value) (hw : ∀ d ∈ tables_1, d.before a0 Z = true) (hE : EW Z a0 EL0) {n0 : Nat} {h0 : Heap} (hO : Old Z n0 h0) {bl lg : Addr} (Fl : Fld Z h0 bl "sun/util/locale/BaseLocale" "language" "Ljava/lang/String;" (.ref lg)) :
    Ctr NW EL0 n0 Z [] l (⟨"sun/util/locale/BaseLocale", "getLanguage", "()Ljava/lang/String;"⟩ : MethodName) jdk_3003_method_5_code 1 (some (.object "java/lang/String")) ({ frames := 0, cells := 0, slots := 0, locals := 0 } : Room) #[.ref bl] h0 (RV fun w h => w = .ref lg ∧ h0 = h) := by
  refine Ctr.body (plainFor_of_name pn_5) hE hO (fun x q => nomatch q) (L0 := #[.val (.ref bl)]) (fun m => by first | (simp [entryFrame, mkF, argsToLocals, Value.category, maxLocals]; done) | rfl) ?_
  intro p e s m below meth c T0 W0
  refine Go.aload_n W0.cx d_jdk_3003_method_5_0 (v := (.ref bl)) rfl rfl ?_
  refine Go.getf W0 d_jdk_3003_method_5_1 (wd hw 189 rfl) Via.refl Fl ?_
  intro T1 W1
  exact Go.aret W1 d_jdk_3003_method_5_4 rfl rfl rfl (by decide) (by decide) ⟨_, rfl, rfl, rfl⟩
theorem pn_6 : plainName "java/util/Locale" = true := by first | (simp [plainName, overriddenIn]; done) | decide +kernel
theorem d_jdk_2628_method_27_0 : Dec jdk_2628_method_27_code 0 (.aload_n 0) 1 1 := ⟨by decide +kernel, rfl⟩
theorem d_jdk_2628_method_27_1 : Dec jdk_2628_method_27_code 1 (.getfield 28) 3 4 := ⟨by decide +kernel, rfl⟩
theorem d_jdk_2628_method_27_4 : Dec jdk_2628_method_27_code 4 (.invokevirtual 293) 3 7 := ⟨by decide +kernel, rfl⟩
theorem pd_15 : parseMethodDescriptor "()Ljava/lang/String;" = some ⟨[], some (.object "java/lang/String")⟩ := by decide +kernel
theorem d_jdk_2628_method_27_7 : Dec jdk_2628_method_27_code 7 (.areturn) 1 8 := ⟨by decide +kernel, rfl⟩
set_option maxRecDepth 65536 in
set_option maxHeartbeats 40000000 in
theorem c_lang (l : Launch) (Z : State) (a0 : Array Value) (hw : ∀ d ∈ tables_1, d.before a0 Z = true) (hE : EW Z a0 EL0) {n0 : Nat} {h0 : Heap} (hO : Old Z n0 h0) {loc lg : Addr} (HLo : Loc0 Z loc lg) :
    Ctr NW EL0 n0 Z [] l (⟨"java/util/Locale", "getLanguage", "()Ljava/lang/String;"⟩ : MethodName) jdk_2628_method_27_code 1 (some (.object "java/lang/String")) ({ frames := 1, cells := 0, slots := 0, locals := 12 } : Room) #[.ref loc] h0 (RV fun w h => w = .ref lg ∧ h0 = h) := by
  refine Ctr.body (plainFor_of_name pn_6) hE hO (fun x q => nomatch q) (L0 := #[.val (.ref loc)]) (fun m => by first | (simp [entryFrame, mkF, argsToLocals, Value.category, maxLocals]; done) | rfl) ?_
  intro p e s m below meth c T0 W0
  obtain ⟨bl, -, -, Fb, Eb, Fl, -⟩ := id HLo
  refine Go.aload_n W0.cx d_jdk_2628_method_27_0 (v := (.ref loc)) rfl rfl ?_
  refine Go.getf W0 d_jdk_2628_method_27_1 (wd hw 181 rfl) Via.refl (Fb.ext hO.2) ?_
  intro T1 W1
  refine Go.invv1 W1 (Ctr.call (wt := 0) (c_blang l Z a0 hw hE W1.old (Fl.ext hO.2)) W1.ew (wd hw 188 rfl) (wd hw 187 rfl) (by simp) (by decide) (by decide)) d_jdk_2628_method_27_4 (wd hw 183 rfl) (wd hw 184 rfl) (wd hw 186 rfl) (wd hw 185 rfl) (by decide) (Eb.ext hO.2) pd_15 rfl rfl (rest := []) rfl (Nat.le_of_eq rfl) (cells' := 0) (slots' := 0) rfl rfl (by decide) (by decide) ?_
  rintro T2 h2 _ W2 z2 ⟨rfl, e2⟩
  subst e2
  exact Go.aret W2 d_jdk_2628_method_27_7 rfl rfl rfl (by decide) (by decide) ⟨_, rfl, rfl, rfl⟩
theorem map_low_of {cs ds : List Int32} (hl : ds.length = cs.length) (h : ∀ t, t < cs.length → ds.getD t 0 = low (cs.getD t 0)) : ds = cs.map low := by
  apply List.ext_getElem?
  intro i
  rw [List.getElem?_map]
  by_cases hi : i < cs.length
  · have := h i hi
    rw [List.getD_eq_getElem?_getD, List.getD_eq_getElem?_getD, List.getElem?_eq_getElem hi, List.getElem?_eq_getElem (by omega)] at this
    rw [List.getElem?_eq_getElem hi, List.getElem?_eq_getElem (by omega)]
    exact congrArg some this
  · rw [List.getElem?_eq_none (by omega), List.getElem?_eq_none (by omega)]; rfl
theorem map_low_ch {cs : List Int32} (h : ∀ c ∈ cs, ¬ c < 0 ∧ ¬ (255 : Int32) < c) : ∀ c ∈ cs.map low, ¬ c < 0 ∧ ¬ (255 : Int32) < c := by
  intro c q
  obtain ⟨x, hx, rfl⟩ := List.mem_map.mp q
  exact low_rg (h x hx)
theorem front_getD {cs ds : List Int32} {n t : Nat} (ht : t < n) (hn : n ≤ cs.length) : ((cs.drop 0).take n ++ ds).getD t 0 = cs.getD t 0 := by
  rw [List.drop_zero, List.getD_eq_getElem?_getD, List.getD_eq_getElem?_getD, List.getElem?_append_left (by rw [List.length_take]; omega), List.getElem?_take, if_pos ht]
theorem d_jdk_43_method_32_0 : Dec jdk_43_method_32_code 0 (.aload_n 2) 1 1 := ⟨by decide +kernel, rfl⟩
theorem d_jdk_43_method_32_1 : Dec jdk_43_method_32_code 1 (.ifnonnull 11) 3 4 := ⟨by decide +kernel, rfl⟩
theorem d_jdk_43_method_32_12 : Dec jdk_43_method_32_code 12 (.aload_n 1) 1 13 := ⟨by decide +kernel, rfl⟩
theorem d_jdk_43_method_32_13 : Dec jdk_43_method_32_code 13 (.arraylength) 1 14 := ⟨by decide +kernel, rfl⟩
theorem d_jdk_43_method_32_14 : Dec jdk_43_method_32_code 14 (.istore 4) 2 16 := ⟨by decide +kernel, rfl⟩
theorem d_jdk_43_method_32_16 : Dec jdk_43_method_32_code 16 (.iconst 0) 1 17 := ⟨by decide +kernel, rfl⟩
theorem d_jdk_43_method_32_17 : Dec jdk_43_method_32_code 17 (.istore_n 3) 1 18 := ⟨by decide +kernel, rfl⟩
theorem d_jdk_43_method_32_55 : Dec jdk_43_method_32_code 55 (.iload_n 3) 1 56 := ⟨by decide +kernel, rfl⟩
theorem d_jdk_43_method_32_56 : Dec jdk_43_method_32_code 56 (.iload 4) 2 58 := ⟨by decide +kernel, rfl⟩
theorem d_jdk_43_method_32_58 : Dec jdk_43_method_32_code 58 (.if_icmp .ne 5) 3 61 := ⟨by decide +kernel, rfl⟩
theorem d_jdk_43_method_32_63 : Dec jdk_43_method_32_code 63 (.aload_n 2) 1 64 := ⟨by decide +kernel, rfl⟩
theorem d_jdk_43_method_32_64 : Dec jdk_43_method_32_code 64 (.invokevirtual 162) 3 67 := ⟨by decide +kernel, rfl⟩
theorem d_jdk_43_method_32_67 : Dec jdk_43_method_32_code 67 (.astore 5) 2 69 := ⟨by decide +kernel, rfl⟩
theorem d_jdk_43_method_32_69 : Dec jdk_43_method_32_code 69 (.aload 5) 2 71 := ⟨by decide +kernel, rfl⟩
theorem d_jdk_43_method_32_71 : Dec jdk_43_method_32_code 71 (.ldc 168) 2 73 := ⟨by decide +kernel, rfl⟩
theorem d_jdk_43_method_32_73 : Dec jdk_43_method_32_code 73 (.if_acmp .eq 17) 3 76 := ⟨by decide +kernel, rfl⟩
theorem d_jdk_43_method_32_76 : Dec jdk_43_method_32_code 76 (.aload 5) 2 78 := ⟨by decide +kernel, rfl⟩
theorem d_jdk_43_method_32_78 : Dec jdk_43_method_32_code 78 (.ldc 170) 2 80 := ⟨by decide +kernel, rfl⟩
theorem d_jdk_43_method_32_80 : Dec jdk_43_method_32_code 80 (.if_acmp .eq 10) 3 83 := ⟨by decide +kernel, rfl⟩
theorem d_jdk_43_method_32_83 : Dec jdk_43_method_32_code 83 (.aload 5) 2 85 := ⟨by decide +kernel, rfl⟩
theorem d_jdk_43_method_32_85 : Dec jdk_43_method_32_code 85 (.ldc 172) 2 87 := ⟨by decide +kernel, rfl⟩
theorem d_jdk_43_method_32_87 : Dec jdk_43_method_32_code 87 (.if_acmp .ne 12) 3 90 := ⟨by decide +kernel, rfl⟩
theorem d_jdk_43_method_32_99 : Dec jdk_43_method_32_code 99 (.iload 4) 2 101 := ⟨by decide +kernel, rfl⟩
theorem d_jdk_43_method_32_101 : Dec jdk_43_method_32_code 101 (.newarray .byte) 2 103 := ⟨by decide +kernel, rfl⟩
theorem d_jdk_43_method_32_103 : Dec jdk_43_method_32_code 103 (.astore 6) 2 105 := ⟨by decide +kernel, rfl⟩
theorem d_jdk_43_method_32_105 : Dec jdk_43_method_32_code 105 (.aload_n 1) 1 106 := ⟨by decide +kernel, rfl⟩
theorem d_jdk_43_method_32_106 : Dec jdk_43_method_32_code 106 (.iconst 0) 1 107 := ⟨by decide +kernel, rfl⟩
theorem d_jdk_43_method_32_107 : Dec jdk_43_method_32_code 107 (.aload 6) 2 109 := ⟨by decide +kernel, rfl⟩
theorem d_jdk_43_method_32_109 : Dec jdk_43_method_32_code 109 (.iconst 0) 1 110 := ⟨by decide +kernel, rfl⟩
theorem d_jdk_43_method_32_110 : Dec jdk_43_method_32_code 110 (.iload_n 3) 1 111 := ⟨by decide +kernel, rfl⟩
theorem d_jdk_43_method_32_111 : Dec jdk_43_method_32_code 111 (.invokestatic 28) 3 114 := ⟨by decide +kernel, rfl⟩
theorem d_jdk_43_method_32_114 : Dec jdk_43_method_32_code 114 (.iload_n 3) 1 115 := ⟨by decide +kernel, rfl⟩
theorem d_jdk_43_method_32_115 : Dec jdk_43_method_32_code 115 (.istore 7) 2 117 := ⟨by decide +kernel, rfl⟩
theorem d_jdk_43_method_32_117 : Dec jdk_43_method_32_code 117 (.iload 7) 2 119 := ⟨by decide +kernel, rfl⟩
theorem d_jdk_43_method_32_119 : Dec jdk_43_method_32_code 119 (.iload 4) 2 121 := ⟨by decide +kernel, rfl⟩
theorem d_jdk_43_method_32_121 : Dec jdk_43_method_32_code 121 (.if_icmp .ge 54) 3 124 := ⟨by decide +kernel, rfl⟩
theorem d_jdk_43_method_32_175 : Dec jdk_43_method_32_code 175 (.new 1) 3 178 := ⟨by decide +kernel, rfl⟩
theorem d_jdk_43_method_32_178 : Dec jdk_43_method_32_code 178 (.dup) 1 179 := ⟨by decide +kernel, rfl⟩
theorem d_jdk_43_method_32_179 : Dec jdk_43_method_32_code 179 (.aload 6) 2 181 := ⟨by decide +kernel, rfl⟩
theorem d_jdk_43_method_32_181 : Dec jdk_43_method_32_code 181 (.iconst 0) 1 182 := ⟨by decide +kernel, rfl⟩
theorem d_jdk_43_method_32_182 : Dec jdk_43_method_32_code 182 (.invokespecial 112) 3 185 := ⟨by decide +kernel, rfl⟩
theorem d_jdk_43_method_32_185 : Dec jdk_43_method_32_code 185 (.areturn) 1 186 := ⟨by decide +kernel, rfl⟩
theorem d_jdk_43_method_32_124 : Dec jdk_43_method_32_code 124 (.aload_n 1) 1 125 := ⟨by decide +kernel, rfl⟩
theorem d_jdk_43_method_32_125 : Dec jdk_43_method_32_code 125 (.iload 7) 2 127 := ⟨by decide +kernel, rfl⟩
theorem d_jdk_43_method_32_127 : Dec jdk_43_method_32_code 127 (.baload) 1 128 := ⟨by decide +kernel, rfl⟩
theorem d_jdk_43_method_32_128 : Dec jdk_43_method_32_code 128 (.sipush 255) 3 131 := ⟨by decide +kernel, rfl⟩
theorem d_jdk_43_method_32_131 : Dec jdk_43_method_32_code 131 (.iand) 1 132 := ⟨by decide +kernel, rfl⟩
theorem d_jdk_43_method_32_132 : Dec jdk_43_method_32_code 132 (.istore 8) 2 134 := ⟨by decide +kernel, rfl⟩
theorem d_jdk_43_method_32_134 : Dec jdk_43_method_32_code 134 (.getstatic 66) 3 137 := ⟨by decide +kernel, rfl⟩
theorem d_jdk_43_method_32_137 : Dec jdk_43_method_32_code 137 (.iload 8) 2 139 := ⟨by decide +kernel, rfl⟩
theorem d_jdk_43_method_32_139 : Dec jdk_43_method_32_code 139 (.invokevirtual 160) 3 142 := ⟨by decide +kernel, rfl⟩
theorem d_jdk_43_method_32_142 : Dec jdk_43_method_32_code 142 (.istore 8) 2 144 := ⟨by decide +kernel, rfl⟩
theorem d_jdk_43_method_32_144 : Dec jdk_43_method_32_code 144 (.iload 8) 2 146 := ⟨by decide +kernel, rfl⟩
theorem d_jdk_43_method_32_146 : Dec jdk_43_method_32_code 146 (.invokestatic 88) 3 149 := ⟨by decide +kernel, rfl⟩
theorem d_jdk_43_method_32_149 : Dec jdk_43_method_32_code 149 (.ifCond .ne 12) 3 152 := ⟨by decide +kernel, rfl⟩
theorem d_jdk_43_method_32_161 : Dec jdk_43_method_32_code 161 (.aload 6) 2 163 := ⟨by decide +kernel, rfl⟩
theorem d_jdk_43_method_32_163 : Dec jdk_43_method_32_code 163 (.iload 7) 2 165 := ⟨by decide +kernel, rfl⟩
theorem d_jdk_43_method_32_165 : Dec jdk_43_method_32_code 165 (.iload 8) 2 167 := ⟨by decide +kernel, rfl⟩
theorem d_jdk_43_method_32_167 : Dec jdk_43_method_32_code 167 (.i2b) 1 168 := ⟨by decide +kernel, rfl⟩
theorem d_jdk_43_method_32_168 : Dec jdk_43_method_32_code 168 (.bastore) 1 169 := ⟨by decide +kernel, rfl⟩
theorem d_jdk_43_method_32_169 : Dec jdk_43_method_32_code 169 (.iinc 7 1) 3 172 := ⟨by decide +kernel, rfl⟩
theorem d_jdk_43_method_32_172 : Dec jdk_43_method_32_code 172 (.goto (-55)) 3 175 := ⟨by decide +kernel, rfl⟩
theorem d_jdk_43_method_32_18 : Dec jdk_43_method_32_code 18 (.iload_n 3) 1 19 := ⟨by decide +kernel, rfl⟩
theorem d_jdk_43_method_32_19 : Dec jdk_43_method_32_code 19 (.iload 4) 2 21 := ⟨by decide +kernel, rfl⟩
theorem d_jdk_43_method_32_21 : Dec jdk_43_method_32_code 21 (.if_icmp .ge 34) 3 24 := ⟨by decide +kernel, rfl⟩
theorem d_jdk_43_method_32_61 : Dec jdk_43_method_32_code 61 (.aload_n 0) 1 62 := ⟨by decide +kernel, rfl⟩
theorem d_jdk_43_method_32_62 : Dec jdk_43_method_32_code 62 (.areturn) 1 63 := ⟨by decide +kernel, rfl⟩
theorem d_jdk_43_method_32_24 : Dec jdk_43_method_32_code 24 (.aload_n 1) 1 25 := ⟨by decide +kernel, rfl⟩
theorem d_jdk_43_method_32_25 : Dec jdk_43_method_32_code 25 (.iload_n 3) 1 26 := ⟨by decide +kernel, rfl⟩
theorem d_jdk_43_method_32_26 : Dec jdk_43_method_32_code 26 (.baload) 1 27 := ⟨by decide +kernel, rfl⟩
theorem d_jdk_43_method_32_27 : Dec jdk_43_method_32_code 27 (.sipush 255) 3 30 := ⟨by decide +kernel, rfl⟩
theorem d_jdk_43_method_32_30 : Dec jdk_43_method_32_code 30 (.iand) 1 31 := ⟨by decide +kernel, rfl⟩
theorem d_jdk_43_method_32_31 : Dec jdk_43_method_32_code 31 (.istore 5) 2 33 := ⟨by decide +kernel, rfl⟩
theorem d_jdk_43_method_32_33 : Dec jdk_43_method_32_code 33 (.iload 5) 2 35 := ⟨by decide +kernel, rfl⟩
theorem d_jdk_43_method_32_35 : Dec jdk_43_method_32_code 35 (.getstatic 66) 3 38 := ⟨by decide +kernel, rfl⟩
theorem d_jdk_43_method_32_38 : Dec jdk_43_method_32_code 38 (.iload 5) 2 40 := ⟨by decide +kernel, rfl⟩
theorem d_jdk_43_method_32_40 : Dec jdk_43_method_32_code 40 (.invokevirtual 160) 3 43 := ⟨by decide +kernel, rfl⟩
theorem d_jdk_43_method_32_43 : Dec jdk_43_method_32_code 43 (.if_icmp .eq 6) 3 46 := ⟨by decide +kernel, rfl⟩
theorem d_jdk_43_method_32_49 : Dec jdk_43_method_32_code 49 (.iinc 3 1) 3 52 := ⟨by decide +kernel, rfl⟩
theorem d_jdk_43_method_32_52 : Dec jdk_43_method_32_code 52 (.goto (-34)) 3 55 := ⟨by decide +kernel, rfl⟩
theorem d_jdk_43_method_32_46 : Dec jdk_43_method_32_code 46 (.goto 9) 3 49 := ⟨by decide +kernel, rfl⟩
set_option maxRecDepth 65536 in
set_option maxHeartbeats 40000000 in
theorem c_l1low (l : Launch) (Z : State) (a0 : Array Value) (hw : ∀ d ∈ tables_1, d.before a0 Z = true) (hE : EW Z a0 EL0) {n0 : Nat} {h0 : Heap} (hO : Old Z n0 h0) (hL : Lat Z) {loc lg : Addr} (HLo : Loc0 Z loc lg) {a b : Addr} {kb : ClassId} {cs : List Int32} (Sa : Str Z h0 a cs) (A : BArr Z h0 b kb cs) (hpc : ∀ c ∈ cs, ¬ c < 0 ∧ ¬ (255 : Int32) < c) (hcap : cs.length ≤ 8) :
    Ctr NW EL0 n0 Z [] l (⟨"java/lang/StringLatin1", "toLowerCase", "(Ljava/lang/String;[BLjava/util/Locale;)Ljava/lang/String;"⟩ : MethodName) jdk_43_method_32_code 9 (some (.object "java/lang/String")) ({ frames := 2, cells := 8, slots := 48, locals := 30 } : Room) #[.ref a, .ref b, .ref loc] h0 (RV fun w h => ∃ r, w = .ref r ∧ Ext h0 h ∧ Str Z h r (cs.map low)) := by
  refine Ctr.body (plainFor_of_name pn_1) hE hO (fun x q => nomatch q) (L0 := #[.val (.ref a), .val (.ref b), .val (.ref loc), .unset, .unset, .unset, .unset, .unset, .unset]) (fun m => by first | (simp [entryFrame, mkF, argsToLocals, Value.category, maxLocals]; done) | rfl) ?_
  intro p e s m below meth c T0 W0
  obtain ⟨ins, DD, SI, EI, -⟩ := id hL
  obtain ⟨bl, -, Elo, -, -, -, Slg⟩ := id HLo
  refine Go.aload_n W0.cx d_jdk_43_method_32_0 (v := (.ref loc)) rfl rfl ?_
  refine Go.ifnonnull_y W0.cx d_jdk_43_method_32_1 (by decide) (q := 12) rfl ?_
  refine Go.aload_n W0.cx d_jdk_43_method_32_12 (v := (.ref b)) rfl rfl ?_
  refine Go.alen W0 d_jdk_43_method_32_13 A ?_
  refine Go.istore W0.cx d_jdk_43_method_32_14 (L' := #[.val (.ref a), .val (.ref b), .val (.ref loc), .unset, .val (.int (Int32.ofNat cs.length)), .unset, .unset, .unset, .unset]) rfl ?_
  refine Go.iconst W0.cx d_jdk_43_method_32_16 (z := (0 : Int32)) rfl ?_
  refine Go.istore_n W0.cx d_jdk_43_method_32_17 (L' := #[.val (.ref a), .val (.ref b), .val (.ref loc), .val (.int (0 : Int32)), .val (.int (Int32.ofNat cs.length)), .unset, .unset, .unset, .unset]) rfl ?_
  have J55 : ∀ i, i < cs.length → (∀ t, t < i → cs.getD t 0 = low (cs.getD t 0)) → ∀ (T : State) (s5 : Slot), (s5 = .unset ∨ ∃ x : Int32, s5 = .val (.int x)) → Wk NW EL0 n0 Z a0 "java/lang/StringLatin1" "toLowerCase" jdk_43_method_32_code 9 (some (.object "java/lang/String")) p l e ({ frames := 2, cells := 8, slots := 48, locals := 30 } : Room) s m #[.ref a, .ref b, .ref loc] below meth c T h0 [] 0 0 → Go p e below (Endp NW EL0 n0 Z below s ({ frames := 2, cells := 8, slots := 48, locals := 30 } : Room).cells ({ frames := 2, cells := 8, slots := 48, locals := 30 } : Room).slots (RV fun w h => ∃ r, w = .ref r ∧ Ext h0 h ∧ Str Z h r (cs.map low))) T (mkF m 55 #[.val (.ref a), .val (.ref b), .val (.ref loc), .val (.int (Int32.ofNat i)), .val (.int (Int32.ofNat cs.length)), s5, .unset, .unset, .unset] []) := by
    intro i hi hin T301 s5 hs5 W301
    refine Go.iload_n W301.cx d_jdk_43_method_32_55 (v := (Int32.ofNat i)) rfl ?_
    refine Go.iload W301.cx d_jdk_43_method_32_56 (v := (Int32.ofNat cs.length)) rfl ?_
    refine Go.icne W301.cx d_jdk_43_method_32_58 (by decide) (q := 63) rfl (fun _ => ?_) (fun hh => (by first | exact absurd (show ¬ Int32.ofNat i = Int32.ofNat cs.length by rw [eq_nat (by omega) (by omega)]; omega) hh | exact absurd hh (show ¬ Int32.ofNat i = Int32.ofNat cs.length by rw [eq_nat (by omega) (by omega)]; omega)))
    refine Go.aload_n W301.cx d_jdk_43_method_32_63 (v := (.ref loc)) rfl rfl ?_
    refine Go.invv1 W301 (Ctr.call (wt := 0) (c_lang l Z a0 hw hE W301.old HLo) W301.ew (wd hw 180 rfl) (wd hw 75 rfl) (by simp) (by decide) (by decide)) d_jdk_43_method_32_64 (wd hw 176 rfl) (wd hw 177 rfl) (wd hw 179 rfl) (wd hw 178 rfl) (by decide) (Elo.ext hO.2) pd_15 rfl rfl (rest := []) rfl (Nat.le_of_eq rfl) (cells' := 0) (slots' := 0) rfl rfl (by decide) (by decide) ?_
    rintro T302 h302 _ W302 z302 ⟨rfl, e302⟩
    subst e302
    refine Go.astore W302.cx d_jdk_43_method_32_67 (L' := #[.val (.ref a), .val (.ref b), .val (.ref loc), .val (.int (Int32.ofNat i)), .val (.int (Int32.ofNat cs.length)), .val (.ref lg), .unset, .unset, .unset]) rfl (by rcases hs5 with rfl | ⟨_, rfl⟩ <;> rfl) ?_
    refine Go.aload W302.cx d_jdk_43_method_32_69 (v := (.ref lg)) rfl rfl ?_
    refine Go.ldcS W302 (fun q => q) d_jdk_43_method_32_71 (wd hw 191 rfl) (wS hw) (by decide) (cs := [116, 114]) ⟨by decide, by decide +kernel⟩ (by decide) (by decide) (nn := 8) (by decide) (by decide) (cells' := 2) (slots' := 12) rfl rfl (by decide) (by decide) ?_
    intro T303 h303 l303 b303 kb303 W303 E303 A303 C303 V303 B303 X303 S303
    have XO303 := ext_trans hO.2 E303
    have XH303 := ext_trans (ext_refl h0) E303
    have hne303 := (Slg.ext XO303).ne S303 (by decide)
    refine Go.aceq W303.cx d_jdk_43_method_32_73 rfl rfl (by decide) (q := 90) rfl (fun hh => (by first | exact absurd (fun z : (Value.ref lg) = .ref l303 => hne303 (Value.ref.inj z)) hh | exact absurd hh (fun z : (Value.ref lg) = .ref l303 => hne303 (Value.ref.inj z)))) (fun _ => ?_)
    refine Go.aload W303.cx d_jdk_43_method_32_76 (v := (.ref lg)) rfl rfl ?_
    refine Go.ldcS W303 (fun q => q) d_jdk_43_method_32_78 (wd hw 192 rfl) (wS hw) (by decide) (cs := [97, 122]) ⟨by decide, by decide +kernel⟩ (by decide) (by decide) (nn := 8) (by decide) (by decide) (cells' := 4) (slots' := 24) rfl rfl (by decide) (by decide) ?_
    intro T304 h304 l304 b304 kb304 W304 E304 A304 C304 V304 B304 X304 S304
    have XO304 := ext_trans XO303 E304
    have XH304 := ext_trans XH303 E304
    have hne304 := (Slg.ext XO304).ne S304 (by decide)
    refine Go.aceq W304.cx d_jdk_43_method_32_80 rfl rfl (by decide) (q := 90) rfl (fun hh => (by first | exact absurd (fun z : (Value.ref lg) = .ref l304 => hne304 (Value.ref.inj z)) hh | exact absurd hh (fun z : (Value.ref lg) = .ref l304 => hne304 (Value.ref.inj z)))) (fun _ => ?_)
    refine Go.aload W304.cx d_jdk_43_method_32_83 (v := (.ref lg)) rfl rfl ?_
    refine Go.ldcS W304 (fun q => q) d_jdk_43_method_32_85 (wd hw 193 rfl) (wS hw) (by decide) (cs := [108, 116]) ⟨by decide, by decide +kernel⟩ (by decide) (by decide) (nn := 8) (by decide) (by decide) (cells' := 6) (slots' := 36) rfl rfl (by decide) (by decide) ?_
    intro T305 h305 l305 b305 kb305 W305 E305 A305 C305 V305 B305 X305 S305
    have XO305 := ext_trans XO304 E305
    have XH305 := ext_trans XH304 E305
    have hne305 := (Slg.ext XO305).ne S305 (by decide)
    refine Go.acne W305.cx d_jdk_43_method_32_87 rfl rfl (by decide) (q := 99) rfl (fun _ => ?_) (fun hh => (by first | exact absurd (fun z : (Value.ref lg) = .ref l305 => hne305 (Value.ref.inj z)) hh | exact absurd hh (fun z : (Value.ref lg) = .ref l305 => hne305 (Value.ref.inj z))))
    refine Go.iload W305.cx d_jdk_43_method_32_99 (v := (Int32.ofNat cs.length)) rfl ?_
    refine Go.newarr W305 d_jdk_43_method_32_101 (wd hw 11 rfl) (z := (Int32.ofNat cs.length)) (cap := 8) (by rw [Int32.lt_iff_toInt_lt, toInt_nat (by omega)]; show ¬ ((cs.length : Int) < 0); omega) (by rw [clamp_nat (by omega)]; exact hcap) (by decide) (cells' := 7) (slots' := 44) rfl rfl (by decide) (by decide) ?_
    intro T306 h306 a306 ka306 g306 W306 E306 A306
    have V306 : BArr Z h306 a306 ka306 (List.replicate cs.length 0) := BArr.of_new A306 (k := cs.length) rfl rfl
    have XN := ext_trans XH305 E306
    have hge : h0.size ≤ a306 := by rw [g306]; exact XH305.1
    have AN := A.ext XN
    refine Go.astore W306.cx d_jdk_43_method_32_103 (L' := #[.val (.ref a), .val (.ref b), .val (.ref loc), .val (.int (Int32.ofNat i)), .val (.int (Int32.ofNat cs.length)), .val (.ref lg), .val (.ref a306), .unset, .unset]) rfl rfl ?_
    refine Go.aload_n W306.cx d_jdk_43_method_32_105 (v := (.ref b)) rfl rfl ?_
    refine Go.iconst W306.cx d_jdk_43_method_32_106 (z := (0 : Int32)) rfl ?_
    refine Go.aload W306.cx d_jdk_43_method_32_107 (v := (.ref a306)) rfl rfl ?_
    refine Go.iconst W306.cx d_jdk_43_method_32_109 (z := (0 : Int32)) rfl ?_
    refine Go.iload_n W306.cx d_jdk_43_method_32_110 (v := (Int32.ofNat i)) rfl ?_
    refine Go.acopyG W306 (sp := 0) (nn := i) d_jdk_43_method_32_111 (wd hw 194 rfl) (wd hw 164 rfl) (wd hw 162 rfl) (wd hw 163 rfl) AN V306 (by simp) (by omega) (by simp; omega) (by omega) (by simp; omega) rfl (by decide) (wt := 0) (Nat.le_of_eq rfl) (by decide) ?_
    intro T307 h307 W307 K307 V307
    have X307 : Ext h0 h307 := ext_keep XN K307 (all1 hge)
    refine Go.iload_n W307.cx d_jdk_43_method_32_114 (v := (Int32.ofNat i)) rfl ?_
    refine Go.istore W307.cx d_jdk_43_method_32_115 (L' := #[.val (.ref a), .val (.ref b), .val (.ref loc), .val (.int (Int32.ofNat i)), .val (.int (Int32.ofNat cs.length)), .val (.ref lg), .val (.ref a306), .val (.int (Int32.ofNat i)), .unset]) rfl ?_
    have loop2 : ∀ j u, u + j = cs.length → ∀ (T : State) (h : Heap) (ds : List Int32) (s8 : Slot), ds.length = cs.length → (∀ t, t < u → ds.getD t 0 = low (cs.getD t 0)) → (s8 = .unset ∨ ∃ x : Int32, s8 = .val (.int x)) → Wk NW EL0 n0 Z a0 "java/lang/StringLatin1" "toLowerCase" jdk_43_method_32_code 9 (some (.object "java/lang/String")) p l e ({ frames := 2, cells := 8, slots := 48, locals := 30 } : Room) s m #[.ref a, .ref b, .ref loc] below meth c T h [a306] 7 44 → Ext h0 h → BArr Z h a306 ka306 ds → Go p e below (Endp NW EL0 n0 Z below s ({ frames := 2, cells := 8, slots := 48, locals := 30 } : Room).cells ({ frames := 2, cells := 8, slots := 48, locals := 30 } : Room).slots (RV fun w h => ∃ r, w = .ref r ∧ Ext h0 h ∧ Str Z h r (cs.map low))) T (mkF m 117 #[.val (.ref a), .val (.ref b), .val (.ref loc), .val (.int (Int32.ofNat i)), .val (.int (Int32.ofNat cs.length)), .val (.ref lg), .val (.ref a306), .val (.int (Int32.ofNat u)), s8] []) := by
      intro j
      induction j with
      | zero =>
        intro u hu T401 h401 ds s8 hdl hds hs8 W401 XX VV
        refine Go.iload W401.cx d_jdk_43_method_32_117 (v := (Int32.ofNat u)) rfl ?_
        refine Go.iload W401.cx d_jdk_43_method_32_119 (v := (Int32.ofNat cs.length)) rfl ?_
        refine Go.icge W401.cx d_jdk_43_method_32_121 (by decide) (q := 175) rfl (fun _ => ?_) (fun hh => (by first | exact absurd (show ¬ Int32.ofNat u < Int32.ofNat cs.length by rw [lt_nat (by omega) (by omega)]; omega) hh | exact absurd hh (show ¬ Int32.ofNat u < Int32.ofNat cs.length by rw [lt_nat (by omega) (by omega)]; omega)))
        obtain rfl := map_low_of hdl (fun t ht => hds t (by omega))
        refine Go.new W401 d_jdk_43_method_32_175 (wd hw 149 rfl) (wd hw 10 rfl) (wd hw 9 rfl) (cells' := 8) (slots' := 48) rfl rfl (by decide) (by decide) ?_
        intro T402 h402 a402 g402 W402 E402 A402 D402
        have N402 : NewS Z h402 a402 := ⟨A402, D402 (Or.inr (wd hw 12 rfl)) (t := .array .byte) (by decide), D402 (Or.inr (wd hw 13 rfl)) (t := .byte) (by decide)⟩
        refine Go.dup W402.cx d_jdk_43_method_32_178 rfl ?_
        refine Go.aload W402.cx d_jdk_43_method_32_179 (v := (.ref a306)) rfl rfl ?_
        refine Go.iconst W402.cx d_jdk_43_method_32_181 (z := (0 : Int32)) rfl ?_
        refine Go.invi W402 (Ctr.call (wt := 1) (c_s151 l Z a0 hw hE W402.old (VV.ext E402) (W402.mine (by simp)).1 N402 (fun z => absurd VV.lt (by rw [z, g402]; exact Nat.lt_irrefl _)) (map_low_ch hpc) (by rw [List.length_map]; omega)) W402.ew (wd hw 167 rfl) (wd hw 9 rfl) (by simp) (by decide) (by decide)) d_jdk_43_method_32_182 rfl (wd hw 165 rfl) (wd hw 166 rfl) (wd hw 167 rfl) (by decide) pd_9 rfl rfl (rest := [(.ref a402)]) rfl (Nat.le_of_eq rfl) (cells' := 8) (slots' := 48) rfl rfl (by decide) (by decide) ?_
        rintro T403 h403 W403 z403 ⟨K403, S403⟩
        exact Go.aret W403 d_jdk_43_method_32_185 rfl rfl rfl (by decide) (by decide) ⟨_, rfl, _, rfl, ext_keep (ext_trans XX E402) K403 (all1 (by rw [g402]; exact XX.1)), S403⟩
      | succ j ih =>
        intro u hu T501 h501 ds s8 hdl hds hs8 W501 XX VV
        refine Go.iload W501.cx d_jdk_43_method_32_117 (v := (Int32.ofNat u)) rfl ?_
        refine Go.iload W501.cx d_jdk_43_method_32_119 (v := (Int32.ofNat cs.length)) rfl ?_
        refine Go.icge W501.cx d_jdk_43_method_32_121 (by decide) (q := 175) rfl (fun hh => (by first | exact absurd (show Int32.ofNat u < Int32.ofNat cs.length by rw [lt_nat (by omega) (by omega)]; omega) hh | exact absurd hh (show Int32.ofNat u < Int32.ofNat cs.length by rw [lt_nat (by omega) (by omega)]; omega))) (fun _ => ?_)
        refine Go.aload_n W501.cx d_jdk_43_method_32_124 (v := (.ref b)) rfl rfl ?_
        refine Go.iload W501.cx d_jdk_43_method_32_125 (v := (Int32.ofNat u)) rfl ?_
        have hr := getD_ch hpc (i := u) (by omega)
        refine Go.baload W501 u d_jdk_43_method_32_127 (A.ext XX) rfl (by omega) (by omega) (v := (by8 (cs.getD u 0))) rfl ?_
        refine Go.sipush W501.cx d_jdk_43_method_32_128 (z := (255 : Int32)) rfl ?_
        refine Go.iand W501.cx d_jdk_43_method_32_131 ?_
        refine Go.top (by8_and hr) ?_
        refine Go.istore W501.cx d_jdk_43_method_32_132 (L' := #[.val (.ref a), .val (.ref b), .val (.ref loc), .val (.int (Int32.ofNat i)), .val (.int (Int32.ofNat cs.length)), .val (.ref lg), .val (.ref a306), .val (.int (Int32.ofNat u)), .val (.int (cs.getD u 0))]) (by rcases hs8 with rfl | ⟨_, rfl⟩ <;> rfl) ?_
        refine Go.gets W501 d_jdk_43_method_32_134 (wd hw 117 rfl) Via.refl SI ?_
        intro T502 W502
        refine Go.iload W502.cx d_jdk_43_method_32_137 (v := (cs.getD u 0)) rfl ?_
        refine Go.invv1 W502 (Ctr.call (wt := 0) (c_low l Z a0 hw hE W502.old (t := ins) hr) W502.ew (wd hw 175 rfl) (wd hw 118 rfl) (by simp) (by decide) (by decide)) d_jdk_43_method_32_139 (wd hw 171 rfl) (wd hw 172 rfl) (wd hw 174 rfl) (wd hw 173 rfl) (by decide) (EI.ext W502.old.2) pd_5 rfl rfl (rest := []) rfl (Nat.le_of_eq rfl) (cells' := 7) (slots' := 44) rfl rfl (by decide) (by decide) ?_
        rintro T503 h503 _ W503 z503 ⟨rfl, e503⟩
        subst e503
        refine Go.istore W503.cx d_jdk_43_method_32_142 (L' := #[.val (.ref a), .val (.ref b), .val (.ref loc), .val (.int (Int32.ofNat i)), .val (.int (Int32.ofNat cs.length)), .val (.ref lg), .val (.ref a306), .val (.int (Int32.ofNat u)), .val (.int (low (cs.getD u 0)))]) rfl ?_
        refine Go.iload W503.cx d_jdk_43_method_32_144 (v := (low (cs.getD u 0))) rfl ?_
        refine Go.invs1 W503 (Ctr.call (wt := 0) (c_can l Z a0 hw hE W503.old (low_rg hr)) W503.ew (wd hw 54 rfl) (wd hw 50 rfl) (by simp) (by decide) (by decide)) d_jdk_43_method_32_146 (wd hw 52 rfl) (wd hw 53 rfl) (wd hw 50 rfl) (wd hw 54 rfl) (by decide) pd_0 rfl rfl (rest := []) rfl (Nat.le_of_eq rfl) (cells' := 7) (slots' := 44) rfl rfl (by decide) (by decide) ?_
        rintro T504 h504 _ W504 z504 ⟨rfl, e504⟩
        subst e504
        refine Go.ifne W504.cx d_jdk_43_method_32_149 (by decide) (q := 161) rfl (fun _ => ?_) (fun hh => (by first | exact absurd (by decide : ¬ (1 : Int32) = 0) hh | exact absurd hh (by decide : ¬ (1 : Int32) = 0)))
        refine Go.aload W504.cx d_jdk_43_method_32_161 (v := (.ref a306)) rfl rfl ?_
        refine Go.iload W504.cx d_jdk_43_method_32_163 (v := (Int32.ofNat u)) rfl ?_
        refine Go.iload W504.cx d_jdk_43_method_32_165 (v := (low (cs.getD u 0))) rfl ?_
        refine Go.i2b W504.cx d_jdk_43_method_32_167 ?_
        refine Go.bastore W504 u d_jdk_43_method_32_168 VV (by simp) rfl (by omega) (by omega) (x' := low (cs.getD u 0)) (by8_nar _) ?_
        intro T505 h505 W505 K505 V505
        refine Go.iinc W505.cx d_jdk_43_method_32_169 (z := (Int32.ofNat (u + 1))) (L' := #[.val (.ref a), .val (.ref b), .val (.ref loc), .val (.int (Int32.ofNat i)), .val (.int (Int32.ofNat cs.length)), .val (.ref lg), .val (.ref a306), .val (.int (Int32.ofNat (u + 1))), .val (.int (low (cs.getD u 0)))]) rfl (add1_nat u) rfl ?_
        refine Go.goto W505.cx d_jdk_43_method_32_172 (by decide) (q := 117) rfl ?_
        exact ih (u + 1) (by omega) _ _ _ _ (by rw [List.length_set]; exact hdl) (fun t ht => by rw [getD_set _ _ _ _ (by omega)]; rcases Nat.lt_or_eq_of_le (Nat.le_of_lt_succ ht) with z | z; rw [if_neg (by omega)]; exact hds t z; rw [if_pos z.symm, z]) (Or.inr ⟨_, rfl⟩) W505 (ext_keep XX K505 (all1 hge)) V505
    exact loop2 (cs.length - i) i (by omega) _ _ _ _ (by rw [List.length_append, List.length_take, List.length_drop, List.length_drop, List.length_replicate]; omega) (fun t ht => by rw [front_getD ht (by omega)]; exact hin t ht) (Or.inl rfl) W307 X307 V307
  have loop : ∀ j i, i + j = cs.length → (∀ t, t < i → cs.getD t 0 = low (cs.getD t 0)) → ∀ (T : State) (s5 : Slot), (s5 = .unset ∨ ∃ x : Int32, s5 = .val (.int x)) → Wk NW EL0 n0 Z a0 "java/lang/StringLatin1" "toLowerCase" jdk_43_method_32_code 9 (some (.object "java/lang/String")) p l e ({ frames := 2, cells := 8, slots := 48, locals := 30 } : Room) s m #[.ref a, .ref b, .ref loc] below meth c T h0 [] 0 0 → Go p e below (Endp NW EL0 n0 Z below s ({ frames := 2, cells := 8, slots := 48, locals := 30 } : Room).cells ({ frames := 2, cells := 8, slots := 48, locals := 30 } : Room).slots (RV fun w h => ∃ r, w = .ref r ∧ Ext h0 h ∧ Str Z h r (cs.map low))) T (mkF m 18 #[.val (.ref a), .val (.ref b), .val (.ref loc), .val (.int (Int32.ofNat i)), .val (.int (Int32.ofNat cs.length)), s5, .unset, .unset, .unset] []) := by
    intro j
    induction j with
    | zero =>
      intro i hi hin T101 s5 hs5 W101
      refine Go.iload_n W101.cx d_jdk_43_method_32_18 (v := (Int32.ofNat i)) rfl ?_
      refine Go.iload W101.cx d_jdk_43_method_32_19 (v := (Int32.ofNat cs.length)) rfl ?_
      refine Go.icge W101.cx d_jdk_43_method_32_21 (by decide) (q := 55) rfl (fun _ => ?_) (fun hh => (by first | exact absurd (show ¬ Int32.ofNat i < Int32.ofNat cs.length by rw [lt_nat (by omega) (by omega)]; omega) hh | exact absurd hh (show ¬ Int32.ofNat i < Int32.ofNat cs.length by rw [lt_nat (by omega) (by omega)]; omega)))
      refine Go.iload_n W101.cx d_jdk_43_method_32_55 (v := (Int32.ofNat i)) rfl ?_
      refine Go.iload W101.cx d_jdk_43_method_32_56 (v := (Int32.ofNat cs.length)) rfl ?_
      refine Go.icne W101.cx d_jdk_43_method_32_58 (by decide) (q := 63) rfl (fun hh => (by first | exact absurd (show Int32.ofNat i = Int32.ofNat cs.length by rw [show i = cs.length by omega]) hh | exact absurd hh (show Int32.ofNat i = Int32.ofNat cs.length by rw [show i = cs.length by omega]))) (fun _ => ?_)
      refine Go.aload_n W101.cx d_jdk_43_method_32_61 (v := (.ref a)) rfl rfl ?_
      exact Go.aret W101 d_jdk_43_method_32_62 rfl rfl rfl (by decide) (by decide) ⟨_, rfl, _, rfl, ext_refl h0, by rw [map_low_eq (fun t ht => hin t (by omega))]; exact Sa⟩
    | succ j ih =>
      intro i hi hin T201 s5 hs5 W201
      refine Go.iload_n W201.cx d_jdk_43_method_32_18 (v := (Int32.ofNat i)) rfl ?_
      refine Go.iload W201.cx d_jdk_43_method_32_19 (v := (Int32.ofNat cs.length)) rfl ?_
      refine Go.icge W201.cx d_jdk_43_method_32_21 (by decide) (q := 55) rfl (fun hh => (by first | exact absurd (show Int32.ofNat i < Int32.ofNat cs.length by rw [lt_nat (by omega) (by omega)]; omega) hh | exact absurd hh (show Int32.ofNat i < Int32.ofNat cs.length by rw [lt_nat (by omega) (by omega)]; omega))) (fun _ => ?_)
      refine Go.aload_n W201.cx d_jdk_43_method_32_24 (v := (.ref b)) rfl rfl ?_
      refine Go.iload_n W201.cx d_jdk_43_method_32_25 (v := (Int32.ofNat i)) rfl ?_
      have hr := getD_ch hpc (i := i) (by omega)
      refine Go.baload W201 i d_jdk_43_method_32_26 A rfl (by omega) (by omega) (v := (by8 (cs.getD i 0))) rfl ?_
      refine Go.sipush W201.cx d_jdk_43_method_32_27 (z := (255 : Int32)) rfl ?_
      refine Go.iand W201.cx d_jdk_43_method_32_30 ?_
      refine Go.top (by8_and hr) ?_
      refine Go.istore W201.cx d_jdk_43_method_32_31 (L' := #[.val (.ref a), .val (.ref b), .val (.ref loc), .val (.int (Int32.ofNat i)), .val (.int (Int32.ofNat cs.length)), .val (.int (cs.getD i 0)), .unset, .unset, .unset]) (by rcases hs5 with rfl | ⟨_, rfl⟩ <;> rfl) ?_
      refine Go.iload W201.cx d_jdk_43_method_32_33 (v := (cs.getD i 0)) rfl ?_
      refine Go.gets W201 d_jdk_43_method_32_35 (wd hw 117 rfl) Via.refl SI ?_
      intro T202 W202
      refine Go.iload W202.cx d_jdk_43_method_32_38 (v := (cs.getD i 0)) rfl ?_
      refine Go.invv1 W202 (Ctr.call (wt := 1) (c_low l Z a0 hw hE W202.old (t := ins) hr) W202.ew (wd hw 175 rfl) (wd hw 118 rfl) (by simp) (by decide) (by decide)) d_jdk_43_method_32_40 (wd hw 171 rfl) (wd hw 172 rfl) (wd hw 174 rfl) (wd hw 173 rfl) (by decide) (EI.ext W202.old.2) pd_5 rfl rfl (rest := [(.int (cs.getD i 0))]) rfl (Nat.le_of_eq rfl) (cells' := 0) (slots' := 0) rfl rfl (by decide) (by decide) ?_
      rintro T203 h203 _ W203 z203 ⟨rfl, e203⟩
      subst e203
      refine Go.iceq W203.cx d_jdk_43_method_32_43 (by decide) (q := 49) rfl (fun c1 => ?_) (fun c1 => ?_)
      · refine Go.iinc W203.cx d_jdk_43_method_32_49 (z := (Int32.ofNat (i + 1))) (L' := #[.val (.ref a), .val (.ref b), .val (.ref loc), .val (.int (Int32.ofNat (i + 1))), .val (.int (Int32.ofNat cs.length)), .val (.int (cs.getD i 0)), .unset, .unset, .unset]) rfl (add1_nat i) rfl ?_
        refine Go.goto W203.cx d_jdk_43_method_32_52 (by decide) (q := 18) rfl ?_
        exact ih (i + 1) (by omega) (fun t ht => by rcases Nat.lt_or_eq_of_le (Nat.le_of_lt_succ ht) with z | z; exact hin t z; rw [z]; exact c1) _ _ (Or.inr ⟨_, rfl⟩) W203
      · refine Go.goto W203.cx d_jdk_43_method_32_46 (by decide) (q := 55) rfl ?_
        exact J55 i (by omega) hin _ _ (Or.inr ⟨_, rfl⟩) W203
  exact loop cs.length 0 (by omega) (fun t ht => absurd ht (Nat.not_lt_zero _)) _ _ (Or.inl rfl) W0
theorem d_jdk_42_method_109_0 : Dec jdk_42_method_109_code 0 (.aload_n 0) 1 1 := ⟨by decide +kernel, rfl⟩
theorem d_jdk_42_method_109_1 : Dec jdk_42_method_109_code 1 (.invokevirtual 492) 3 4 := ⟨by decide +kernel, rfl⟩
theorem d_jdk_42_method_109_4 : Dec jdk_42_method_109_code 4 (.ifCond .eq 15) 3 7 := ⟨by decide +kernel, rfl⟩
theorem d_jdk_42_method_109_7 : Dec jdk_42_method_109_code 7 (.aload_n 0) 1 8 := ⟨by decide +kernel, rfl⟩
theorem d_jdk_42_method_109_8 : Dec jdk_42_method_109_code 8 (.aload_n 0) 1 9 := ⟨by decide +kernel, rfl⟩
theorem d_jdk_42_method_109_9 : Dec jdk_42_method_109_code 9 (.getfield 9) 3 12 := ⟨by decide +kernel, rfl⟩
theorem d_jdk_42_method_109_12 : Dec jdk_42_method_109_code 12 (.aload_n 1) 1 13 := ⟨by decide +kernel, rfl⟩
theorem d_jdk_42_method_109_13 : Dec jdk_42_method_109_code 13 (.invokestatic 839) 3 16 := ⟨by decide +kernel, rfl⟩
theorem pd_16 : parseMethodDescriptor "(Ljava/lang/String;[BLjava/util/Locale;)Ljava/lang/String;" = some ⟨[(.object "java/lang/String"), (.array .byte), (.object "java/util/Locale")], some (.object "java/lang/String")⟩ := by decide +kernel
theorem d_jdk_42_method_109_16 : Dec jdk_42_method_109_code 16 (.goto 12) 3 19 := ⟨by decide +kernel, rfl⟩
theorem d_jdk_42_method_109_28 : Dec jdk_42_method_109_code 28 (.areturn) 1 29 := ⟨by decide +kernel, rfl⟩
set_option maxRecDepth 65536 in
set_option maxHeartbeats 40000000 in
theorem c_slow (l : Launch) (Z : State) (a0 : Array Value) (hw : ∀ d ∈ tables_1, d.before a0 Z = true) (hE : EW Z a0 EL0) {n0 : Nat} {h0 : Heap} (hO : Old Z n0 h0) (hG : Gl Z) (hL : Lat Z) {loc lg : Addr} (HLo : Loc0 Z loc lg) {a : Addr} {cs : List Int32} (S : Str Z h0 a cs) (hcap : cs.length ≤ 8) :
    Ctr NW EL0 n0 Z [] l (⟨"java/lang/String", "toLowerCase", "(Ljava/util/Locale;)Ljava/lang/String;"⟩ : MethodName) jdk_42_method_109_code 2 (some (.object "java/lang/String")) ({ frames := 3, cells := 8, slots := 48, locals := 50 } : Room) #[.ref a, .ref loc] h0 (RV fun w h => ∃ r, w = .ref r ∧ Ext h0 h ∧ Str Z h r (cs.map low)) := by
  refine Ctr.body (plainFor_of_name pn_0) hE hO (fun x q => nomatch q) (L0 := #[.val (.ref a), .val (.ref loc)]) (fun m => by first | (simp [entryFrame, mkF, argsToLocals, Value.category, maxLocals]; done) | rfl) ?_
  intro p e s m below meth c T0 W0
  obtain ⟨-, -, ⟨b1, kb1, V1, B1⟩, hpc, hcl⟩ := id S
  refine Go.aload_n W0.cx d_jdk_42_method_109_0 (v := (.ref a)) rfl rfl ?_
  refine Go.invv1 W0 (Ctr.call (wt := 0) (c_lat1 l Z a0 hw hE W0.old hG S) W0.ew (wd hw 34 rfl) (wd hw 9 rfl) (by simp) (by decide) (by decide)) d_jdk_42_method_109_1 (wd hw 30 rfl) (wd hw 31 rfl) (wd hw 33 rfl) (wd hw 32 rfl) (by decide) S.exa pd_3 rfl rfl (rest := []) rfl (Nat.le_of_eq rfl) (cells' := 0) (slots' := 0) rfl rfl (by decide) (by decide) ?_
  rintro T1 h1 _ W1 z1 ⟨rfl, e1⟩
  subst e1
  refine Go.ifeq W1.cx d_jdk_42_method_109_4 (by decide) (q := 19) rfl (fun hh => (by first | exact absurd (by decide : ¬ (1 : Int32) = 0) hh | exact absurd hh (by decide : ¬ (1 : Int32) = 0))) (fun _ => ?_)
  refine Go.aload_n W1.cx d_jdk_42_method_109_7 (v := (.ref a)) rfl rfl ?_
  refine Go.aload_n W1.cx d_jdk_42_method_109_8 (v := (.ref a)) rfl rfl ?_
  refine Go.getf W1 d_jdk_42_method_109_9 (wd hw 37 rfl) Via.refl V1 ?_
  intro T2 W2
  refine Go.aload_n W2.cx d_jdk_42_method_109_12 (v := (.ref loc)) rfl rfl ?_
  refine Go.invs1 W2 (Ctr.call (wt := 0) (c_l1low l Z a0 hw hE W2.old hL HLo S B1 hpc hcap) W2.ew (wd hw 83 rfl) (wd hw 50 rfl) (by simp) (by decide) (by decide)) d_jdk_42_method_109_13 (wd hw 81 rfl) (wd hw 82 rfl) (wd hw 50 rfl) (wd hw 83 rfl) (by decide) pd_16 rfl rfl (rest := []) rfl (Nat.le_of_eq rfl) (cells' := 8) (slots' := 48) rfl rfl (by decide) (by decide) ?_
  rintro T3 h3 _ W3 z3 ⟨r3, rfl, E3, S3⟩
  refine Go.goto W3.cx d_jdk_42_method_109_16 (by decide) (q := 28) rfl ?_
  exact Go.aret W3 d_jdk_42_method_109_28 rfl rfl rfl (by decide) (by decide) ⟨_, rfl, _, rfl, E3, S3⟩
theorem getD_tk {cs : List Int32} {k t : Nat} (h : t < k) : (cs.take k).getD t 0 = cs.getD t 0 := by rw [getD_take, if_pos h]
theorem dt_dt {cs : List Int32} {k i j : Nat} (h : j ≤ k) : ((cs.take k).drop i).take (j - i) = (cs.drop i).take (j - i) := by
  rw [List.drop_take, List.take_take, Nat.min_eq_left (by omega)]
theorem oq_of {cs : List Int32} {k i j : Nat} (h1 : k ≤ cs.length) (h2 : ∀ t, t < k → ¬ cs.getD t 0 = 59) (h3 : k < cs.length → cs.getD k 0 = 59) (h : (∀ t, t < i → wsP ((cs.take k).getD t 0)) ∧ (∀ t, j ≤ t → t < (cs.take k).length → wsP ((cs.take k).getD t 0)) ∧ ((i = (cs.take k).length ∧ j = i) ∨ (i < j ∧ j ≤ (cs.take k).length ∧ ¬ wsP ((cs.take k).getD i 0) ∧ ¬ wsP ((cs.take k).getD (j - 1) 0)))) : (k ≤ cs.length ∧ (∀ t, t < k → ¬ cs.getD t 0 = 59) ∧ (k < cs.length → cs.getD k 0 = 59) ∧ (∀ t, t < i → wsP (cs.getD t 0)) ∧ (∀ t, j ≤ t → t < k → wsP (cs.getD t 0)) ∧ ((i = k ∧ j = i) ∨ (i < j ∧ j ≤ k ∧ ¬ wsP (cs.getD i 0) ∧ ¬ wsP (cs.getD (j - 1) 0)))) ∧ ((cs.take k).drop i).take (j - i) = (cs.drop i).take (j - i) := by
  have hl : (cs.take k).length = k := by rw [List.length_take]; omega
  rw [hl] at h
  obtain ⟨a, b, c⟩ := h
  have hik : i ≤ k := by omega
  have hjk : j ≤ k := by omega
  refine ⟨⟨h1, h2, h3, fun t ht => ?_, fun t ht hk => ?_, c.imp (fun u => u) (fun u => ?_)⟩, dt_dt hjk⟩
  · have := a t ht; rwa [getD_tk (by omega)] at this
  · have := b t ht hk; rwa [getD_tk (by omega)] at this
  · obtain ⟨u1, u2, u3, u4⟩ := u
    rw [getD_tk (by omega)] at u3 u4
    exact ⟨u1, u2, u3, u4⟩
theorem pn_7 : plainName "com/example/tributary/tributary/MediaTypes" = true := by first | (simp [plainName, overriddenIn]; done) | decide +kernel
theorem d_prog_4_method_2_0 : Dec prog_4_method_2_code 0 (.aload_n 0) 1 1 := ⟨by decide +kernel, rfl⟩
theorem d_prog_4_method_2_1 : Dec prog_4_method_2_code 1 (.bipush 59) 2 3 := ⟨by decide +kernel, rfl⟩
theorem d_prog_4_method_2_3 : Dec prog_4_method_2_code 3 (.invokevirtual 7) 3 6 := ⟨by decide +kernel, rfl⟩
theorem d_prog_4_method_2_21 : Dec prog_4_method_2_code 21 (.invokevirtual 17) 3 24 := ⟨by decide +kernel, rfl⟩
theorem d_prog_4_method_2_24 : Dec prog_4_method_2_code 24 (.getstatic 21) 3 27 := ⟨by decide +kernel, rfl⟩
theorem d_prog_4_method_2_27 : Dec prog_4_method_2_code 27 (.invokevirtual 27) 3 30 := ⟨by decide +kernel, rfl⟩
theorem pd_17 : parseMethodDescriptor "(Ljava/util/Locale;)Ljava/lang/String;" = some ⟨[(.object "java/util/Locale")], some (.object "java/lang/String")⟩ := by decide +kernel
theorem d_prog_4_method_2_30 : Dec prog_4_method_2_code 30 (.areturn) 1 31 := ⟨by decide +kernel, rfl⟩
theorem d_prog_4_method_2_6 : Dec prog_4_method_2_code 6 (.istore_n 1) 1 7 := ⟨by decide +kernel, rfl⟩
theorem d_prog_4_method_2_7 : Dec prog_4_method_2_code 7 (.iload_n 1) 1 8 := ⟨by decide +kernel, rfl⟩
theorem d_prog_4_method_2_8 : Dec prog_4_method_2_code 8 (.ifCond .ge 7) 3 11 := ⟨by decide +kernel, rfl⟩
theorem d_prog_4_method_2_15 : Dec prog_4_method_2_code 15 (.aload_n 0) 1 16 := ⟨by decide +kernel, rfl⟩
theorem d_prog_4_method_2_16 : Dec prog_4_method_2_code 16 (.iconst 0) 1 17 := ⟨by decide +kernel, rfl⟩
theorem d_prog_4_method_2_17 : Dec prog_4_method_2_code 17 (.iload_n 1) 1 18 := ⟨by decide +kernel, rfl⟩
theorem d_prog_4_method_2_18 : Dec prog_4_method_2_code 18 (.invokevirtual 13) 3 21 := ⟨by decide +kernel, rfl⟩
theorem pd_18 : parseMethodDescriptor "(II)Ljava/lang/String;" = some ⟨[.int, .int], some (.object "java/lang/String")⟩ := by decide +kernel
theorem d_prog_4_method_2_11 : Dec prog_4_method_2_code 11 (.aload_n 0) 1 12 := ⟨by decide +kernel, rfl⟩
theorem d_prog_4_method_2_12 : Dec prog_4_method_2_code 12 (.goto 9) 3 15 := ⟨by decide +kernel, rfl⟩
set_option maxRecDepth 65536 in
set_option maxHeartbeats 40000000 in
theorem c_of (l : Launch) (Z : State) (a0 : Array Value) (hw : ∀ d ∈ tables_1, d.before a0 Z = true) (hE : EW Z a0 EL0) {n0 : Nat} {h0 : Heap} (hO : Old Z n0 h0) (hG : Gl Z) (hL : Lat Z) {loc lg : Addr} (HLo : Loc0 Z loc lg) {a : Addr} {cs : List Int32} (S : Str Z h0 a cs) (hcap : cs.length ≤ 8) :
    Ctr NW EL0 n0 Z [] l (⟨"com/example/tributary/tributary/MediaTypes", "of", "(Ljava/lang/String;)Ljava/lang/String;"⟩ : MethodName) prog_4_method_2_code 2 (some (.object "java/lang/String")) ({ frames := 6, cells := 12, slots := 72, locals := 92 } : Room) #[.ref a] h0 (RV fun w h => ∃ (k i j : Nat) (r : Addr), w = .ref r ∧ (k ≤ cs.length ∧ (∀ t, t < k → ¬ cs.getD t 0 = 59) ∧ (k < cs.length → cs.getD k 0 = 59) ∧ (∀ t, t < i → wsP (cs.getD t 0)) ∧ (∀ t, j ≤ t → t < k → wsP (cs.getD t 0)) ∧ ((i = k ∧ j = i) ∨ (i < j ∧ j ≤ k ∧ ¬ wsP (cs.getD i 0) ∧ ¬ wsP (cs.getD (j - 1) 0)))) ∧ Ext h0 h ∧ Str Z h r (((cs.drop i).take (j - i)).map low)) := by
  refine Ctr.body (plainFor_of_name pn_7) hE hO (fun x q => nomatch q) (L0 := #[.val (.ref a), .unset]) (fun m => by first | (simp [entryFrame, mkF, argsToLocals, Value.category, maxLocals]; done) | rfl) ?_
  intro p e s m below meth c T0 W0
  obtain ⟨bl, SR, Elo, -⟩ := id HLo
  refine Go.aload_n W0.cx d_prog_4_method_2_0 (v := (.ref a)) rfl rfl ?_
  refine Go.bipush W0.cx d_prog_4_method_2_1 (z := (59 : Int32)) rfl ?_
  refine Go.invv1 W0 (Ctr.call (wt := 0) (c_io1 l Z a0 hw hE W0.old hG S (x := 59) (by decide)) W0.ew (wd hw 24 rfl) (wd hw 9 rfl) (by simp) (by decide) (by decide)) d_prog_4_method_2_3 (wd hw 20 rfl) (wd hw 21 rfl) (wd hw 23 rfl) (wd hw 22 rfl) (by decide) S.exa pd_5 rfl rfl (rest := []) rfl (Nat.le_of_eq rfl) (cells' := 0) (slots' := 0) rfl rfl (by decide) (by decide) ?_
  rintro T1 h1 v1 W1 z1 ⟨k, hk1, hk2, H1, e1⟩
  subst e1
  have J21 : ∀ (z : Int32) (q : Addr) (T : State) (h : Heap), Wk NW EL0 n0 Z a0 "com/example/tributary/tributary/MediaTypes" "of" prog_4_method_2_code 2 (some (.object "java/lang/String")) p l e ({ frames := 6, cells := 12, slots := 72, locals := 92 } : Room) s m #[.ref a] below meth c T h [] 2 12 → Ext h0 h → Str Z h q (cs.take k) → (k < cs.length → cs.getD k 0 = 59) → Go p e below (Endp NW EL0 n0 Z below s ({ frames := 6, cells := 12, slots := 72, locals := 92 } : Room).cells ({ frames := 6, cells := 12, slots := 72, locals := 92 } : Room).slots (RV fun w h => ∃ (k i j : Nat) (r : Addr), w = .ref r ∧ (k ≤ cs.length ∧ (∀ t, t < k → ¬ cs.getD t 0 = 59) ∧ (k < cs.length → cs.getD k 0 = 59) ∧ (∀ t, t < i → wsP (cs.getD t 0)) ∧ (∀ t, j ≤ t → t < k → wsP (cs.getD t 0)) ∧ ((i = k ∧ j = i) ∨ (i < j ∧ j ≤ k ∧ ¬ wsP (cs.getD i 0) ∧ ¬ wsP (cs.getD (j - 1) 0)))) ∧ Ext h0 h ∧ Str Z h r (((cs.drop i).take (j - i)).map low))) T (mkF m 21 #[.val (.ref a), .val (.int z)] [(.ref q)]) := by
    intro z q T101 h101 W101 XX Sq hk3
    refine Go.invv1 W101 (Ctr.call (wt := 0) (c_strip l Z a0 hw hE W101.old hG hL Sq (by rw [List.length_take]; omega)) W101.ew (wd hw 66 rfl) (wd hw 9 rfl) (by simp) (by decide) (by decide)) d_prog_4_method_2_21 (wd hw 62 rfl) (wd hw 63 rfl) (wd hw 65 rfl) (wd hw 64 rfl) (by decide) Sq.exa pd_15 rfl rfl (rest := []) rfl (Nat.le_of_eq rfl) (cells' := 4) (slots' := 24) rfl rfl (by decide) (by decide) ?_
    rintro T102 h102 _ W102 z102 ⟨i, j, r102, rfl, SP102, E102, S102⟩
    obtain ⟨OQ, eQ⟩ := oq_of hk1 hk2 hk3 SP102
    rw [eQ] at S102
    refine Go.gets W102 d_prog_4_method_2_24 (wd hw 74 rfl) Via.refl SR ?_
    intro T103 W103
    refine Go.invv1 W103 (Ctr.call (wt := 0) (c_slow l Z a0 hw hE W103.old hG hL HLo S102 (by rw [List.length_take, List.length_drop]; omega)) W103.ew (wd hw 80 rfl) (wd hw 9 rfl) (by simp) (by decide) (by decide)) d_prog_4_method_2_27 (wd hw 76 rfl) (wd hw 77 rfl) (wd hw 79 rfl) (wd hw 78 rfl) (by decide) S102.exa pd_17 rfl rfl (rest := []) rfl (Nat.le_of_eq rfl) (cells' := 12) (slots' := 72) rfl rfl (by decide) (by decide) ?_
    rintro T104 h104 _ W104 z104 ⟨r104, rfl, E104, S104⟩
    exact Go.aret W104 d_prog_4_method_2_30 rfl rfl rfl (by decide) (by decide) ⟨_, rfl, k, i, j, r104, rfl, OQ, ext_trans (ext_trans XX E102) E104, S104⟩
  rcases H1 with ⟨hlt, heq, rfl⟩ | ⟨heq, rfl⟩
  · refine Go.istore_n W1.cx d_prog_4_method_2_6 (L' := #[.val (.ref a), .val (.int (Int32.ofNat k))]) rfl ?_
    refine Go.iload_n W1.cx d_prog_4_method_2_7 (v := (Int32.ofNat k)) rfl ?_
    refine Go.ifge W1.cx d_prog_4_method_2_8 (by decide) (q := 15) rfl (fun _ => ?_) (fun hh => (by first | exact absurd (show ¬ Int32.ofNat k < Int32.ofNat 0 by have := S.2.2.2.2; rw [lt_nat (by omega) (by omega)]; omega) hh | exact absurd hh (show ¬ Int32.ofNat k < Int32.ofNat 0 by have := S.2.2.2.2; rw [lt_nat (by omega) (by omega)]; omega)))
    refine Go.aload_n W1.cx d_prog_4_method_2_15 (v := (.ref a)) rfl rfl ?_
    refine Go.iconst W1.cx d_prog_4_method_2_16 (z := (0 : Int32)) rfl ?_
    refine Go.iload_n W1.cx d_prog_4_method_2_17 (v := (Int32.ofNat k)) rfl ?_
    refine Go.invv1 W1 (Ctr.call (wt := 0) (c_sub l Z a0 hw hE W1.old hG S (f := 0) (e1 := k) (by omega) hk1 (by omega) (by omega)) W1.ew (wd hw 137 rfl) (wd hw 9 rfl) (by simp) (by decide) (by decide)) d_prog_4_method_2_18 (wd hw 133 rfl) (wd hw 134 rfl) (wd hw 136 rfl) (wd hw 135 rfl) (by decide) S.exa pd_18 rfl rfl (rest := []) rfl (Nat.le_of_eq rfl) (cells' := 2) (slots' := 12) rfl rfl (by decide) (by decide) ?_
    rintro T2 h2 _ W2 z2 ⟨r2, rfl, E2, S2⟩
    rw [List.drop_zero, Nat.sub_zero] at S2
    exact J21 _ _ _ _ W2 E2 S2 (fun _ => heq)
  · refine Go.istore_n W1.cx d_prog_4_method_2_6 (L' := #[.val (.ref a), .val (.int (-1 : Int32))]) rfl ?_
    refine Go.iload_n W1.cx d_prog_4_method_2_7 (v := (-1 : Int32)) rfl ?_
    refine Go.ifge W1.cx d_prog_4_method_2_8 (by decide) (q := 15) rfl (fun hh => (by first | exact absurd (by decide : (-1 : Int32) < 0) hh | exact absurd hh (by decide : (-1 : Int32) < 0))) (fun _ => ?_)
    refine Go.aload_n W1.cx d_prog_4_method_2_11 (v := (.ref a)) rfl rfl ?_
    refine Go.goto W1.cx d_prog_4_method_2_12 (by decide) (q := 21) rfl ?_
    exact J21 _ _ _ _ (W1.mono (by decide) (by decide)) (ext_refl h0) (by rw [heq, List.take_length]; exact S) (fun z => absurd z (by omega))
theorem pn_8 : plainName "com/example/tributary/tributary/MediaTypesOfPinLaw" = true := by first | (simp [plainName, overriddenIn]; done) | decide +kernel
theorem d_method_3_0 : Dec method_3_code 0 (.iload_n 1) 1 1 := ⟨by decide +kernel, rfl⟩
theorem d_method_3_1 : Dec method_3_code 1 (.iconst 2) 1 2 := ⟨by decide +kernel, rfl⟩
theorem d_method_3_2 : Dec method_3_code 2 (.iload_n 2) 1 3 := ⟨by decide +kernel, rfl⟩
theorem d_method_3_3 : Dec method_3_code 3 (.imul) 1 4 := ⟨by decide +kernel, rfl⟩
theorem d_method_3_4 : Dec method_3_code 4 (.iushr) 1 5 := ⟨by decide +kernel, rfl⟩
theorem d_method_3_5 : Dec method_3_code 5 (.iconst 3) 1 6 := ⟨by decide +kernel, rfl⟩
theorem d_method_3_6 : Dec method_3_code 6 (.iand) 1 7 := ⟨by decide +kernel, rfl⟩
theorem d_method_3_7 : Dec method_3_code 7 (.istore_n 3) 1 8 := ⟨by decide +kernel, rfl⟩
theorem d_method_3_8 : Dec method_3_code 8 (.iload_n 3) 1 9 := ⟨by decide +kernel, rfl⟩
theorem d_method_3_9 : Dec method_3_code 9 (.iconst 1) 1 10 := ⟨by decide +kernel, rfl⟩
theorem d_method_3_10 : Dec method_3_code 10 (.if_icmp .ne 6) 3 13 := ⟨by decide +kernel, rfl⟩
theorem d_method_3_16 : Dec method_3_code 16 (.iload_n 3) 1 17 := ⟨by decide +kernel, rfl⟩
theorem d_method_3_17 : Dec method_3_code 17 (.iconst 2) 1 18 := ⟨by decide +kernel, rfl⟩
theorem d_method_3_18 : Dec method_3_code 18 (.if_icmp .ne 6) 3 21 := ⟨by decide +kernel, rfl⟩
theorem d_method_3_24 : Dec method_3_code 24 (.iload_n 0) 1 25 := ⟨by decide +kernel, rfl⟩
theorem d_method_3_25 : Dec method_3_code 25 (.bipush 8) 2 27 := ⟨by decide +kernel, rfl⟩
theorem d_method_3_27 : Dec method_3_code 27 (.iload_n 2) 1 28 := ⟨by decide +kernel, rfl⟩
theorem d_method_3_28 : Dec method_3_code 28 (.imul) 1 29 := ⟨by decide +kernel, rfl⟩
theorem d_method_3_29 : Dec method_3_code 29 (.iushr) 1 30 := ⟨by decide +kernel, rfl⟩
theorem d_method_3_30 : Dec method_3_code 30 (.sipush 255) 3 33 := ⟨by decide +kernel, rfl⟩
theorem d_method_3_33 : Dec method_3_code 33 (.iand) 1 34 := ⟨by decide +kernel, rfl⟩
theorem d_method_3_34 : Dec method_3_code 34 (.i2c) 1 35 := ⟨by decide +kernel, rfl⟩
theorem d_method_3_35 : Dec method_3_code 35 (.ireturn) 1 36 := ⟨by decide +kernel, rfl⟩
theorem d_method_3_21 : Dec method_3_code 21 (.bipush 32) 2 23 := ⟨by decide +kernel, rfl⟩
theorem d_method_3_23 : Dec method_3_code 23 (.ireturn) 1 24 := ⟨by decide +kernel, rfl⟩
theorem d_method_3_13 : Dec method_3_code 13 (.bipush 59) 2 15 := ⟨by decide +kernel, rfl⟩
theorem d_method_3_15 : Dec method_3_code 15 (.ireturn) 1 16 := ⟨by decide +kernel, rfl⟩
set_option maxRecDepth 65536 in
set_option maxHeartbeats 40000000 in
theorem c_pick (l : Launch) (Z : State) (a0 : Array Value) (hw : ∀ d ∈ tables_1, d.before a0 Z = true) (hE : EW Z a0 EL0) {n0 : Nat} {h0 : Heap} (hO : Old Z n0 h0) (x y z : Int32) :
    Ctr NW EL0 n0 Z [] l (⟨"com/example/tributary/tributary/MediaTypesOfPinLaw", "pick", "(III)C"⟩ : MethodName) method_3_code 4 (some .char) ({ frames := 0, cells := 0, slots := 0, locals := 0 } : Room) #[.int x, .int y, .int z] h0 (RV fun w h => ∃ v : Int32, w = .int v ∧ (¬ v < 0 ∧ ¬ (255 : Int32) < v) ∧ h0 = h) := by
  refine Ctr.body (plainFor_of_name pn_8) hE hO (fun x q => nomatch q) (L0 := #[.val (.int x), .val (.int y), .val (.int z), .unset]) (fun m => by first | (simp [entryFrame, mkF, argsToLocals, Value.category, maxLocals]; done) | rfl) ?_
  intro p e s m below meth c T0 W0
  refine Go.iload_n W0.cx d_method_3_0 (v := y) rfl ?_
  refine Go.iconst W0.cx d_method_3_1 (z := (2 : Int32)) rfl ?_
  refine Go.iload_n W0.cx d_method_3_2 (v := z) rfl ?_
  refine Go.imul W0.cx d_method_3_3 ?_
  refine Go.iushr W0.cx d_method_3_4 ?_
  refine Go.iconst W0.cx d_method_3_5 (z := (3 : Int32)) rfl ?_
  refine Go.iand W0.cx d_method_3_6 ?_
  refine Go.istore_n W0.cx d_method_3_7 (L' := #[.val (.int x), .val (.int y), .val (.int z), .val (.int ((ush y ((2 : Int32) * z)) &&& (3 : Int32)))]) rfl ?_
  refine Go.iload_n W0.cx d_method_3_8 (v := ((ush y ((2 : Int32) * z)) &&& (3 : Int32))) rfl ?_
  refine Go.iconst W0.cx d_method_3_9 (z := (1 : Int32)) rfl ?_
  refine Go.icne W0.cx d_method_3_10 (by decide) (q := 16) rfl (fun c1 => ?_) (fun c1 => ?_)
  · refine Go.iload_n W0.cx d_method_3_16 (v := ((ush y ((2 : Int32) * z)) &&& (3 : Int32))) rfl ?_
    refine Go.iconst W0.cx d_method_3_17 (z := (2 : Int32)) rfl ?_
    refine Go.icne W0.cx d_method_3_18 (by decide) (q := 24) rfl (fun c2 => ?_) (fun c2 => ?_)
    · refine Go.iload_n W0.cx d_method_3_24 (v := x) rfl ?_
      refine Go.bipush W0.cx d_method_3_25 (z := (8 : Int32)) rfl ?_
      refine Go.iload_n W0.cx d_method_3_27 (v := z) rfl ?_
      refine Go.imul W0.cx d_method_3_28 ?_
      refine Go.iushr W0.cx d_method_3_29 ?_
      refine Go.sipush W0.cx d_method_3_30 (z := (255 : Int32)) rfl ?_
      refine Go.iand W0.cx d_method_3_33 ?_
      refine Go.i2c W0.cx d_method_3_34 ?_
      refine Go.top (show _ = ((ush x ((8 : Int32) * z)) &&& (255 : Int32)) from i2c_mask _) ?_
      exact Go.iret W0 d_method_3_35 (by simp) (narrow_ch (b255 _)) (by decide) (by decide) ⟨_, rfl, _, rfl, b255 _, rfl⟩
    · refine Go.bipush W0.cx d_method_3_21 (z := (32 : Int32)) rfl ?_
      exact Go.iret W0 d_method_3_23 (by simp) rfl (by decide) (by decide) ⟨_, rfl, _, rfl, by decide, rfl⟩
  · refine Go.bipush W0.cx d_method_3_13 (z := (59 : Int32)) rfl ?_
    exact Go.iret W0 d_method_3_15 (by simp) rfl (by decide) (by decide) ⟨_, rfl, _, rfl, by decide, rfl⟩
theorem d_method_4_0 : Dec method_4_code 0 (.iload_n 0) 1 1 := ⟨by decide +kernel, rfl⟩
theorem d_method_4_1 : Dec method_4_code 1 (.bipush 9) 2 3 := ⟨by decide +kernel, rfl⟩
theorem d_method_4_3 : Dec method_4_code 3 (.if_icmp .lt 9) 3 6 := ⟨by decide +kernel, rfl⟩
theorem d_method_4_12 : Dec method_4_code 12 (.iload_n 0) 1 13 := ⟨by decide +kernel, rfl⟩
theorem d_method_4_13 : Dec method_4_code 13 (.bipush 28) 2 15 := ⟨by decide +kernel, rfl⟩
theorem d_method_4_15 : Dec method_4_code 15 (.if_icmp .lt 13) 3 18 := ⟨by decide +kernel, rfl⟩
theorem d_method_4_28 : Dec method_4_code 28 (.iconst 0) 1 29 := ⟨by decide +kernel, rfl⟩
theorem d_method_4_29 : Dec method_4_code 29 (.ireturn) 1 30 := ⟨by decide +kernel, rfl⟩
theorem d_method_4_18 : Dec method_4_code 18 (.iload_n 0) 1 19 := ⟨by decide +kernel, rfl⟩
theorem d_method_4_19 : Dec method_4_code 19 (.bipush 32) 2 21 := ⟨by decide +kernel, rfl⟩
theorem d_method_4_21 : Dec method_4_code 21 (.if_icmp .gt 7) 3 24 := ⟨by decide +kernel, rfl⟩
theorem d_method_4_24 : Dec method_4_code 24 (.iconst 1) 1 25 := ⟨by decide +kernel, rfl⟩
theorem d_method_4_25 : Dec method_4_code 25 (.goto 4) 3 28 := ⟨by decide +kernel, rfl⟩
theorem d_method_4_6 : Dec method_4_code 6 (.iload_n 0) 1 7 := ⟨by decide +kernel, rfl⟩
theorem d_method_4_7 : Dec method_4_code 7 (.bipush 13) 2 9 := ⟨by decide +kernel, rfl⟩
theorem d_method_4_9 : Dec method_4_code 9 (.if_icmp .le 15) 3 12 := ⟨by decide +kernel, rfl⟩
set_option maxRecDepth 65536 in
set_option maxHeartbeats 40000000 in
theorem c_ws (l : Launch) (Z : State) (a0 : Array Value) (hw : ∀ d ∈ tables_1, d.before a0 Z = true) (hE : EW Z a0 EL0) {n0 : Nat} {h0 : Heap} (hO : Old Z n0 h0) (x : Int32) :
    Ctr NW EL0 n0 Z [] l (⟨"com/example/tributary/tributary/MediaTypesOfPinLaw", "ws", "(C)Z"⟩ : MethodName) method_4_code 1 (some .boolean) ({ frames := 0, cells := 0, slots := 0, locals := 0 } : Room) #[.int x] h0 (RV fun w h => ∃ z : Int32, w = .int z ∧ Bo (wsP x) z ∧ h0 = h) := by
  refine Ctr.body (plainFor_of_name pn_8) hE hO (fun x q => nomatch q) (L0 := #[.val (.int x)]) (fun m => by first | (simp [entryFrame, mkF, argsToLocals, Value.category, maxLocals]; done) | rfl) ?_
  intro p e s m below meth c T0 W0
  refine Go.iload_n W0.cx d_method_4_0 (v := x) rfl ?_
  refine Go.bipush W0.cx d_method_4_1 (z := (9 : Int32)) rfl ?_
  refine Go.iclt W0.cx d_method_4_3 (by decide) (q := 12) rfl (fun c1 => ?_) (fun c1 => ?_)
  · refine Go.iload_n W0.cx d_method_4_12 (v := x) rfl ?_
    refine Go.bipush W0.cx d_method_4_13 (z := (28 : Int32)) rfl ?_
    refine Go.iclt W0.cx d_method_4_15 (by decide) (q := 28) rfl (fun c3 => ?_) (fun c3 => ?_)
    · refine Go.iconst W0.cx d_method_4_28 (z := (0 : Int32)) rfl ?_
      exact Go.iret W0 d_method_4_29 (by simp) rfl (by decide) (by decide) ⟨_, rfl, _, rfl, Bo.ff (fun z => z.elim (fun u => u.1 c1) (fun u => u.1 c3)), rfl⟩
    · refine Go.iload_n W0.cx d_method_4_18 (v := x) rfl ?_
      refine Go.bipush W0.cx d_method_4_19 (z := (32 : Int32)) rfl ?_
      refine Go.icgt W0.cx d_method_4_21 (by decide) (q := 28) rfl (fun c4 => ?_) (fun c4 => ?_)
      · refine Go.iconst W0.cx d_method_4_28 (z := (0 : Int32)) rfl ?_
        exact Go.iret W0 d_method_4_29 (by simp) rfl (by decide) (by decide) ⟨_, rfl, _, rfl, Bo.ff (fun z => z.elim (fun u => u.1 c1) (fun u => u.2 c4)), rfl⟩
      · refine Go.iconst W0.cx d_method_4_24 (z := (1 : Int32)) rfl ?_
        refine Go.goto W0.cx d_method_4_25 (by decide) (q := 29) rfl ?_
        exact Go.iret W0 d_method_4_29 (by simp) rfl (by decide) (by decide) ⟨_, rfl, _, rfl, Bo.tt (Or.inr ⟨c3, c4⟩), rfl⟩
  · refine Go.iload_n W0.cx d_method_4_6 (v := x) rfl ?_
    refine Go.bipush W0.cx d_method_4_7 (z := (13 : Int32)) rfl ?_
    refine Go.icle W0.cx d_method_4_9 (by decide) (q := 24) rfl (fun c2 => ?_) (fun c2 => ?_)
    · refine Go.iconst W0.cx d_method_4_24 (z := (1 : Int32)) rfl ?_
      refine Go.goto W0.cx d_method_4_25 (by decide) (q := 29) rfl ?_
      exact Go.iret W0 d_method_4_29 (by simp) rfl (by decide) (by decide) ⟨_, rfl, _, rfl, Bo.tt (Or.inl ⟨c1, c2⟩), rfl⟩
    · refine Go.iload_n W0.cx d_method_4_12 (v := x) rfl ?_
      refine Go.bipush W0.cx d_method_4_13 (z := (28 : Int32)) rfl ?_
      refine Go.iclt W0.cx d_method_4_15 (by decide) (q := 28) rfl (fun c3 => ?_) (fun c3 => ?_)
      · refine Go.iconst W0.cx d_method_4_28 (z := (0 : Int32)) rfl ?_
        exact Go.iret W0 d_method_4_29 (by simp) rfl (by decide) (by decide) ⟨_, rfl, _, rfl, Bo.ff (fun z => z.elim (fun u => u.2 c2) (fun u => u.1 c3)), rfl⟩
      · refine Go.iload_n W0.cx d_method_4_18 (v := x) rfl ?_
        refine Go.bipush W0.cx d_method_4_19 (z := (32 : Int32)) rfl ?_
        refine Go.icgt W0.cx d_method_4_21 (by decide) (q := 28) rfl (fun c4 => ?_) (fun c4 => ?_)
        · refine Go.iconst W0.cx d_method_4_28 (z := (0 : Int32)) rfl ?_
          exact Go.iret W0 d_method_4_29 (by simp) rfl (by decide) (by decide) ⟨_, rfl, _, rfl, Bo.ff (fun z => z.elim (fun u => u.2 c2) (fun u => u.2 c4)), rfl⟩
        · refine Go.iconst W0.cx d_method_4_24 (z := (1 : Int32)) rfl ?_
          refine Go.goto W0.cx d_method_4_25 (by decide) (q := 29) rfl ?_
          exact Go.iret W0 d_method_4_29 (by simp) rfl (by decide) (by decide) ⟨_, rfl, _, rfl, Bo.tt (Or.inr ⟨c3, c4⟩), rfl⟩
theorem lw1 : ∀ k : Fin 256, ¬ Int32.ofNat k.val < 65 → ¬ 90 < Int32.ofNat k.val → (Int32.ofNat k.val + 32).toUInt32.toUInt16.toUInt32.toInt32 = low (Int32.ofNat k.val) := by decide +kernel
theorem lw2 : ∀ k : Fin 256, ¬ Int32.ofNat k.val < 192 → ¬ 222 < Int32.ofNat k.val → ¬ Int32.ofNat k.val = 215 → (Int32.ofNat k.val + 32).toUInt32.toUInt16.toUInt32.toInt32 = low (Int32.ofNat k.val) := by decide +kernel
theorem lw3 : ∀ k : Fin 256, (Int32.ofNat k.val < 65 ∨ 90 < Int32.ofNat k.val) → (Int32.ofNat k.val < 192 ∨ 222 < Int32.ofNat k.val ∨ Int32.ofNat k.val = 215) → Int32.ofNat k.val = low (Int32.ofNat k.val) := by decide +kernel
theorem d_method_5_0 : Dec method_5_code 0 (.iload_n 0) 1 1 := ⟨by decide +kernel, rfl⟩
theorem d_method_5_1 : Dec method_5_code 1 (.bipush 65) 2 3 := ⟨by decide +kernel, rfl⟩
theorem d_method_5_3 : Dec method_5_code 3 (.if_icmp .lt 15) 3 6 := ⟨by decide +kernel, rfl⟩
theorem d_method_5_18 : Dec method_5_code 18 (.iload_n 0) 1 19 := ⟨by decide +kernel, rfl⟩
theorem d_method_5_19 : Dec method_5_code 19 (.sipush 192) 3 22 := ⟨by decide +kernel, rfl⟩
theorem d_method_5_22 : Dec method_5_code 22 (.if_icmp .lt 23) 3 25 := ⟨by decide +kernel, rfl⟩
theorem d_method_5_45 : Dec method_5_code 45 (.iload_n 0) 1 46 := ⟨by decide +kernel, rfl⟩
theorem d_method_5_46 : Dec method_5_code 46 (.ireturn) 1 47 := ⟨by decide +kernel, rfl⟩
theorem d_method_5_25 : Dec method_5_code 25 (.iload_n 0) 1 26 := ⟨by decide +kernel, rfl⟩
theorem d_method_5_26 : Dec method_5_code 26 (.sipush 222) 3 29 := ⟨by decide +kernel, rfl⟩
theorem d_method_5_29 : Dec method_5_code 29 (.if_icmp .gt 16) 3 32 := ⟨by decide +kernel, rfl⟩
theorem d_method_5_32 : Dec method_5_code 32 (.iload_n 0) 1 33 := ⟨by decide +kernel, rfl⟩
theorem d_method_5_33 : Dec method_5_code 33 (.sipush 215) 3 36 := ⟨by decide +kernel, rfl⟩
theorem d_method_5_36 : Dec method_5_code 36 (.if_icmp .eq 9) 3 39 := ⟨by decide +kernel, rfl⟩
theorem d_method_5_39 : Dec method_5_code 39 (.iload_n 0) 1 40 := ⟨by decide +kernel, rfl⟩
theorem d_method_5_40 : Dec method_5_code 40 (.bipush 32) 2 42 := ⟨by decide +kernel, rfl⟩
theorem d_method_5_42 : Dec method_5_code 42 (.iadd) 1 43 := ⟨by decide +kernel, rfl⟩
theorem d_method_5_43 : Dec method_5_code 43 (.i2c) 1 44 := ⟨by decide +kernel, rfl⟩
theorem d_method_5_44 : Dec method_5_code 44 (.ireturn) 1 45 := ⟨by decide +kernel, rfl⟩
theorem d_method_5_6 : Dec method_5_code 6 (.iload_n 0) 1 7 := ⟨by decide +kernel, rfl⟩
theorem d_method_5_7 : Dec method_5_code 7 (.bipush 90) 2 9 := ⟨by decide +kernel, rfl⟩
theorem d_method_5_9 : Dec method_5_code 9 (.if_icmp .gt 9) 3 12 := ⟨by decide +kernel, rfl⟩
theorem d_method_5_12 : Dec method_5_code 12 (.iload_n 0) 1 13 := ⟨by decide +kernel, rfl⟩
theorem d_method_5_13 : Dec method_5_code 13 (.bipush 32) 2 15 := ⟨by decide +kernel, rfl⟩
theorem d_method_5_15 : Dec method_5_code 15 (.iadd) 1 16 := ⟨by decide +kernel, rfl⟩
theorem d_method_5_16 : Dec method_5_code 16 (.i2c) 1 17 := ⟨by decide +kernel, rfl⟩
theorem d_method_5_17 : Dec method_5_code 17 (.ireturn) 1 18 := ⟨by decide +kernel, rfl⟩
set_option maxRecDepth 65536 in
set_option maxHeartbeats 40000000 in
theorem c_lower (l : Launch) (Z : State) (a0 : Array Value) (hw : ∀ d ∈ tables_1, d.before a0 Z = true) (hE : EW Z a0 EL0) {n0 : Nat} {h0 : Heap} (hO : Old Z n0 h0) {x : Int32} (hx : ¬ x < 0 ∧ ¬ (255 : Int32) < x) :
    Ctr NW EL0 n0 Z [] l (⟨"com/example/tributary/tributary/MediaTypesOfPinLaw", "lower", "(C)C"⟩ : MethodName) method_5_code 1 (some .char) ({ frames := 0, cells := 0, slots := 0, locals := 0 } : Room) #[.int x] h0 (RV fun w h => w = .int (low x) ∧ h0 = h) := by
  refine Ctr.body (plainFor_of_name pn_8) hE hO (fun x q => nomatch q) (L0 := #[.val (.int x)]) (fun m => by first | (simp [entryFrame, mkF, argsToLocals, Value.category, maxLocals]; done) | rfl) ?_
  intro p e s m below meth c T0 W0
  have hlr := low_rg hx
  obtain ⟨k, hk, rfl⟩ := ch_cases hx
  refine Go.iload_n W0.cx d_method_5_0 (v := (Int32.ofNat k)) rfl ?_
  refine Go.bipush W0.cx d_method_5_1 (z := (65 : Int32)) rfl ?_
  refine Go.iclt W0.cx d_method_5_3 (by decide) (q := 18) rfl (fun c1 => ?_) (fun c1 => ?_)
  · refine Go.iload_n W0.cx d_method_5_18 (v := (Int32.ofNat k)) rfl ?_
    refine Go.sipush W0.cx d_method_5_19 (z := (192 : Int32)) rfl ?_
    refine Go.iclt W0.cx d_method_5_22 (by decide) (q := 45) rfl (fun d1 => ?_) (fun d1 => ?_)
    · refine Go.iload_n W0.cx d_method_5_45 (v := (Int32.ofNat k)) rfl ?_
      refine Go.top (lw3 ⟨k, hk⟩ (Or.inl c1) (Or.inl d1)) ?_
      exact Go.iret W0 d_method_5_46 (by simp) (narrow_ch hlr) (by decide) (by decide) ⟨_, rfl, rfl, rfl⟩
    · refine Go.iload_n W0.cx d_method_5_25 (v := (Int32.ofNat k)) rfl ?_
      refine Go.sipush W0.cx d_method_5_26 (z := (222 : Int32)) rfl ?_
      refine Go.icgt W0.cx d_method_5_29 (by decide) (q := 45) rfl (fun d2 => ?_) (fun d2 => ?_)
      · refine Go.iload_n W0.cx d_method_5_45 (v := (Int32.ofNat k)) rfl ?_
        refine Go.top (lw3 ⟨k, hk⟩ (Or.inl c1) (Or.inr (Or.inl d2))) ?_
        exact Go.iret W0 d_method_5_46 (by simp) (narrow_ch hlr) (by decide) (by decide) ⟨_, rfl, rfl, rfl⟩
      · refine Go.iload_n W0.cx d_method_5_32 (v := (Int32.ofNat k)) rfl ?_
        refine Go.sipush W0.cx d_method_5_33 (z := (215 : Int32)) rfl ?_
        refine Go.iceq W0.cx d_method_5_36 (by decide) (q := 45) rfl (fun d3 => ?_) (fun d3 => ?_)
        · refine Go.iload_n W0.cx d_method_5_45 (v := (Int32.ofNat k)) rfl ?_
          refine Go.top (lw3 ⟨k, hk⟩ (Or.inl c1) (Or.inr (Or.inr d3))) ?_
          exact Go.iret W0 d_method_5_46 (by simp) (narrow_ch hlr) (by decide) (by decide) ⟨_, rfl, rfl, rfl⟩
        · refine Go.iload_n W0.cx d_method_5_39 (v := (Int32.ofNat k)) rfl ?_
          refine Go.bipush W0.cx d_method_5_40 (z := (32 : Int32)) rfl ?_
          refine Go.iadd W0.cx d_method_5_42 ?_
          refine Go.i2c W0.cx d_method_5_43 ?_
          refine Go.top (lw2 ⟨k, hk⟩ d1 d2 d3) ?_
          exact Go.iret W0 d_method_5_44 (by simp) (narrow_ch hlr) (by decide) (by decide) ⟨_, rfl, rfl, rfl⟩
  · refine Go.iload_n W0.cx d_method_5_6 (v := (Int32.ofNat k)) rfl ?_
    refine Go.bipush W0.cx d_method_5_7 (z := (90 : Int32)) rfl ?_
    refine Go.icgt W0.cx d_method_5_9 (by decide) (q := 18) rfl (fun c2 => ?_) (fun c2 => ?_)
    · refine Go.iload_n W0.cx d_method_5_18 (v := (Int32.ofNat k)) rfl ?_
      refine Go.sipush W0.cx d_method_5_19 (z := (192 : Int32)) rfl ?_
      refine Go.iclt W0.cx d_method_5_22 (by decide) (q := 45) rfl (fun d1 => ?_) (fun d1 => ?_)
      · refine Go.iload_n W0.cx d_method_5_45 (v := (Int32.ofNat k)) rfl ?_
        refine Go.top (lw3 ⟨k, hk⟩ (Or.inr c2) (Or.inl d1)) ?_
        exact Go.iret W0 d_method_5_46 (by simp) (narrow_ch hlr) (by decide) (by decide) ⟨_, rfl, rfl, rfl⟩
      · refine Go.iload_n W0.cx d_method_5_25 (v := (Int32.ofNat k)) rfl ?_
        refine Go.sipush W0.cx d_method_5_26 (z := (222 : Int32)) rfl ?_
        refine Go.icgt W0.cx d_method_5_29 (by decide) (q := 45) rfl (fun d2 => ?_) (fun d2 => ?_)
        · refine Go.iload_n W0.cx d_method_5_45 (v := (Int32.ofNat k)) rfl ?_
          refine Go.top (lw3 ⟨k, hk⟩ (Or.inr c2) (Or.inr (Or.inl d2))) ?_
          exact Go.iret W0 d_method_5_46 (by simp) (narrow_ch hlr) (by decide) (by decide) ⟨_, rfl, rfl, rfl⟩
        · refine Go.iload_n W0.cx d_method_5_32 (v := (Int32.ofNat k)) rfl ?_
          refine Go.sipush W0.cx d_method_5_33 (z := (215 : Int32)) rfl ?_
          refine Go.iceq W0.cx d_method_5_36 (by decide) (q := 45) rfl (fun d3 => ?_) (fun d3 => ?_)
          · refine Go.iload_n W0.cx d_method_5_45 (v := (Int32.ofNat k)) rfl ?_
            refine Go.top (lw3 ⟨k, hk⟩ (Or.inr c2) (Or.inr (Or.inr d3))) ?_
            exact Go.iret W0 d_method_5_46 (by simp) (narrow_ch hlr) (by decide) (by decide) ⟨_, rfl, rfl, rfl⟩
          · refine Go.iload_n W0.cx d_method_5_39 (v := (Int32.ofNat k)) rfl ?_
            refine Go.bipush W0.cx d_method_5_40 (z := (32 : Int32)) rfl ?_
            refine Go.iadd W0.cx d_method_5_42 ?_
            refine Go.i2c W0.cx d_method_5_43 ?_
            refine Go.top (lw2 ⟨k, hk⟩ d1 d2 d3) ?_
            exact Go.iret W0 d_method_5_44 (by simp) (narrow_ch hlr) (by decide) (by decide) ⟨_, rfl, rfl, rfl⟩
    · refine Go.iload_n W0.cx d_method_5_12 (v := (Int32.ofNat k)) rfl ?_
      refine Go.bipush W0.cx d_method_5_13 (z := (32 : Int32)) rfl ?_
      refine Go.iadd W0.cx d_method_5_15 ?_
      refine Go.i2c W0.cx d_method_5_16 ?_
      refine Go.top (lw1 ⟨k, hk⟩ c1 c2) ?_
      exact Go.iret W0 d_method_5_17 (by simp) (narrow_ch hlr) (by decide) (by decide) ⟨_, rfl, rfl, rfl⟩
theorem d_method_6_0 : Dec method_6_code 0 (.iload_n 0) 1 1 := ⟨by decide +kernel, rfl⟩
theorem d_method_6_1 : Dec method_6_code 1 (.ifCond .ne 6) 3 4 := ⟨by decide +kernel, rfl⟩
theorem d_method_6_4 : Dec method_6_code 4 (.ldc 38) 2 6 := ⟨by decide +kernel, rfl⟩
theorem d_method_6_6 : Dec method_6_code 6 (.areturn) 1 7 := ⟨by decide +kernel, rfl⟩
set_option maxRecDepth 65536 in
set_option maxHeartbeats 40000000 in
theorem c_make0 (l : Launch) (Z : State) (a0 : Array Value) (hw : ∀ d ∈ tables_1, d.before a0 Z = true) (hE : EW Z a0 EL0) {n0 : Nat} {h0 : Heap} (hO : Old Z n0 h0) (hG : Gl Z) {x0 x1 x2 x3 : Int32} (q0 : ¬ x0 < 0 ∧ ¬ (255 : Int32) < x0) (q1 : ¬ x1 < 0 ∧ ¬ (255 : Int32) < x1) (q2 : ¬ x2 < 0 ∧ ¬ (255 : Int32) < x2) (q3 : ¬ x3 < 0 ∧ ¬ (255 : Int32) < x3) :
    Ctr NW EL0 n0 Z [] l (⟨"com/example/tributary/tributary/MediaTypesOfPinLaw", "make", "(ICCCC)Ljava/lang/String;"⟩ : MethodName) method_6_code 5 (some (.object "java/lang/String")) ({ frames := 4, cells := 3, slots := 12, locals := 66 } : Room) #[.int (Int32.ofNat 0), .int x0, .int x1, .int x2, .int x3] h0 (RV fun w h => ∃ r, w = .ref r ∧ Ext h0 h ∧ Str Z h r ([x0, x1, x2, x3].take 0)) := by
  refine Ctr.body (plainFor_of_name pn_8) hE hO (fun x q => nomatch q) (L0 := #[.val (.int (Int32.ofNat 0)), .val (.int x0), .val (.int x1), .val (.int x2), .val (.int x3)]) (fun m => by first | (simp [entryFrame, mkF, argsToLocals, Value.category, maxLocals]; done) | rfl) ?_
  intro p e s m below meth c T0 W0
  refine Go.iload_n W0.cx d_method_6_0 (v := (Int32.ofNat 0)) rfl ?_
  refine Go.ifne W0.cx d_method_6_1 (by decide) (q := 7) rfl (fun hh => (by first | exact absurd (by decide : Int32.ofNat 0 = 0) hh | exact absurd hh (by decide : Int32.ofNat 0 = 0))) (fun _ => ?_)
  refine Go.ldcS W0 (fun q => q) d_method_6_4 (wd hw 8 rfl) (wS hw) (by decide) (cs := []) ⟨by decide, by decide +kernel⟩ (by decide) (by decide) (nn := 0) (by decide) (by decide) (cells' := 2) (slots' := 4) rfl rfl (by decide) (by decide) ?_
  intro T1 h1 l1 b1 kb1 W1 E1 A1 C1 V1 B1 X1 S1
  exact Go.aret W1 d_method_6_6 rfl rfl rfl (by decide) (by decide) ⟨_, rfl, _, rfl, E1, S1⟩
theorem d_method_6_7 : Dec method_6_code 7 (.iload_n 0) 1 8 := ⟨by decide +kernel, rfl⟩
theorem d_method_6_8 : Dec method_6_code 8 (.iconst 1) 1 9 := ⟨by decide +kernel, rfl⟩
theorem d_method_6_9 : Dec method_6_code 9 (.if_icmp .ne 18) 3 12 := ⟨by decide +kernel, rfl⟩
theorem d_method_6_12 : Dec method_6_code 12 (.new 33) 3 15 := ⟨by decide +kernel, rfl⟩
theorem d_method_6_15 : Dec method_6_code 15 (.dup) 1 16 := ⟨by decide +kernel, rfl⟩
theorem d_method_6_16 : Dec method_6_code 16 (.iconst 1) 1 17 := ⟨by decide +kernel, rfl⟩
theorem d_method_6_17 : Dec method_6_code 17 (.newarray .char) 2 19 := ⟨by decide +kernel, rfl⟩
theorem d_method_6_19 : Dec method_6_code 19 (.dup) 1 20 := ⟨by decide +kernel, rfl⟩
theorem d_method_6_20 : Dec method_6_code 20 (.iconst 0) 1 21 := ⟨by decide +kernel, rfl⟩
theorem d_method_6_21 : Dec method_6_code 21 (.iload_n 1) 1 22 := ⟨by decide +kernel, rfl⟩
theorem d_method_6_22 : Dec method_6_code 22 (.castore) 1 23 := ⟨by decide +kernel, rfl⟩
theorem d_method_6_23 : Dec method_6_code 23 (.invokespecial 40) 3 26 := ⟨by decide +kernel, rfl⟩
theorem pd_19 : parseMethodDescriptor "([C)V" = some ⟨[(.array .char)], none⟩ := by decide +kernel
theorem d_method_6_26 : Dec method_6_code 26 (.areturn) 1 27 := ⟨by decide +kernel, rfl⟩
set_option maxRecDepth 65536 in
set_option maxHeartbeats 40000000 in
theorem c_make1 (l : Launch) (Z : State) (a0 : Array Value) (hw : ∀ d ∈ tables_1, d.before a0 Z = true) (hE : EW Z a0 EL0) {n0 : Nat} {h0 : Heap} (hO : Old Z n0 h0) (hG : Gl Z) {x0 x1 x2 x3 : Int32} (q0 : ¬ x0 < 0 ∧ ¬ (255 : Int32) < x0) (q1 : ¬ x1 < 0 ∧ ¬ (255 : Int32) < x1) (q2 : ¬ x2 < 0 ∧ ¬ (255 : Int32) < x2) (q3 : ¬ x3 < 0 ∧ ¬ (255 : Int32) < x3) :
    Ctr NW EL0 n0 Z [] l (⟨"com/example/tributary/tributary/MediaTypesOfPinLaw", "make", "(ICCCC)Ljava/lang/String;"⟩ : MethodName) method_6_code 5 (some (.object "java/lang/String")) ({ frames := 4, cells := 3, slots := 12, locals := 66 } : Room) #[.int (Int32.ofNat 1), .int x0, .int x1, .int x2, .int x3] h0 (RV fun w h => ∃ r, w = .ref r ∧ Ext h0 h ∧ Str Z h r ([x0, x1, x2, x3].take 1)) := by
  refine Ctr.body (plainFor_of_name pn_8) hE hO (fun x q => nomatch q) (L0 := #[.val (.int (Int32.ofNat 1)), .val (.int x0), .val (.int x1), .val (.int x2), .val (.int x3)]) (fun m => by first | (simp [entryFrame, mkF, argsToLocals, Value.category, maxLocals]; done) | rfl) ?_
  intro p e s m below meth c T0 W0
  refine Go.iload_n W0.cx d_method_6_0 (v := (Int32.ofNat 1)) rfl ?_
  refine Go.ifne W0.cx d_method_6_1 (by decide) (q := 7) rfl (fun _ => ?_) (fun hh => (by first | exact absurd (by decide : ¬ Int32.ofNat 1 = 0) hh | exact absurd hh (by decide : ¬ Int32.ofNat 1 = 0)))
  refine Go.iload_n W0.cx d_method_6_7 (v := (Int32.ofNat 1)) rfl ?_
  refine Go.iconst W0.cx d_method_6_8 (z := (1 : Int32)) rfl ?_
  refine Go.icne W0.cx d_method_6_9 (by decide) (q := 27) rfl (fun hh => (by first | exact absurd (by decide : Int32.ofNat 1 = 1) hh | exact absurd hh (by decide : Int32.ofNat 1 = 1))) (fun _ => ?_)
  refine Go.new W0 d_method_6_12 (wd hw 90 rfl) (wd hw 10 rfl) (wd hw 9 rfl) (cells' := 1) (slots' := 4) rfl rfl (by decide) (by decide) ?_
  intro T1 h1 a1 g1 W1 E1 A1 D1
  have N1 : NewS Z h1 a1 := ⟨A1, D1 (Or.inr (wd hw 12 rfl)) (t := .array .byte) (by decide), D1 (Or.inr (wd hw 13 rfl)) (t := .byte) (by decide)⟩
  refine Go.dup W1.cx d_method_6_15 rfl ?_
  refine Go.iconst W1.cx d_method_6_16 (z := (1 : Int32)) rfl ?_
  refine Go.newarr W1 d_method_6_17 (wd hw 84 rfl) (z := (1 : Int32)) (cap := 1) (by decide) (by decide) (by decide) (cells' := 2) (slots' := 5) rfl rfl (by decide) (by decide) ?_
  intro T2 h2 a2 ka2 g2 W2 E2 A2
  have V2 : CArr Z h2 a2 ka2 [0] := CArr.of_new A2 (k := 1) rfl rfl
  have X2 : Ext h0 h2 := ext_trans E1 E2
  have N2 := N1.ext E2
  refine Go.dup W2.cx d_method_6_19 rfl ?_
  refine Go.iconst W2.cx d_method_6_20 (z := (0 : Int32)) rfl ?_
  refine Go.iload_n W2.cx d_method_6_21 (v := x0) rfl ?_
  refine Go.castore W2 0 d_method_6_22 V2 (by simp) rfl (Nat.le_of_ble_eq_true rfl) (Nat.le_of_ble_eq_true rfl) (x' := x0) (nar_ch q0) ?_
  intro T3 h3 W3 K3 V3
  have V3 : CArr Z h3 a2 ka2 [x0] := V3
  have N3 := N2.keep K3 (nin1 N1.1.lt g2)
  have X3 : Ext h0 h3 := ext_keep X2 K3 (all1 (by rw [g2]; exact E1.1))
  have hp4 : ∀ c ∈ [x0], ¬ c < 0 ∧ ¬ (255 : Int32) < c := all_cons (q0) (all_nil)
  refine Go.invi W3 (newStr (wt := 1) W3.ew hw hG N3 V3 (W3.mine (by simp)) (by simp) hp4 (Nat.le_of_ble_eq_true rfl) (Nat.le_of_ble_eq_true rfl) (by decide) (by decide)) d_method_6_23 rfl (wd hw 91 rfl) (wd hw 92 rfl) (wd hw 93 rfl) (by decide) pd_19 rfl rfl (rest := [(.ref a1)]) rfl (Nat.le_of_eq rfl) (cells' := 3) (slots' := 6) rfl rfl (by decide) (by decide) ?_
  rintro T5 h5 W5 z5 ⟨K5, S5⟩
  have X5 : Ext h0 h5 := ext_keep X3 K5 (all1 (Nat.le_of_eq g1.symm))
  exact Go.aret W5 d_method_6_26 rfl rfl rfl (by decide) (by decide) ⟨_, rfl, a1, rfl, X5, S5⟩
theorem d_method_6_27 : Dec method_6_code 27 (.iload_n 0) 1 28 := ⟨by decide +kernel, rfl⟩
theorem d_method_6_28 : Dec method_6_code 28 (.iconst 2) 1 29 := ⟨by decide +kernel, rfl⟩
theorem d_method_6_29 : Dec method_6_code 29 (.if_icmp .ne 22) 3 32 := ⟨by decide +kernel, rfl⟩
theorem d_method_6_32 : Dec method_6_code 32 (.new 33) 3 35 := ⟨by decide +kernel, rfl⟩
theorem d_method_6_35 : Dec method_6_code 35 (.dup) 1 36 := ⟨by decide +kernel, rfl⟩
theorem d_method_6_36 : Dec method_6_code 36 (.iconst 2) 1 37 := ⟨by decide +kernel, rfl⟩
theorem d_method_6_37 : Dec method_6_code 37 (.newarray .char) 2 39 := ⟨by decide +kernel, rfl⟩
theorem d_method_6_39 : Dec method_6_code 39 (.dup) 1 40 := ⟨by decide +kernel, rfl⟩
theorem d_method_6_40 : Dec method_6_code 40 (.iconst 0) 1 41 := ⟨by decide +kernel, rfl⟩
theorem d_method_6_41 : Dec method_6_code 41 (.iload_n 1) 1 42 := ⟨by decide +kernel, rfl⟩
theorem d_method_6_42 : Dec method_6_code 42 (.castore) 1 43 := ⟨by decide +kernel, rfl⟩
theorem d_method_6_43 : Dec method_6_code 43 (.dup) 1 44 := ⟨by decide +kernel, rfl⟩
theorem d_method_6_44 : Dec method_6_code 44 (.iconst 1) 1 45 := ⟨by decide +kernel, rfl⟩
theorem d_method_6_45 : Dec method_6_code 45 (.iload_n 2) 1 46 := ⟨by decide +kernel, rfl⟩
theorem d_method_6_46 : Dec method_6_code 46 (.castore) 1 47 := ⟨by decide +kernel, rfl⟩
theorem d_method_6_47 : Dec method_6_code 47 (.invokespecial 40) 3 50 := ⟨by decide +kernel, rfl⟩
theorem d_method_6_50 : Dec method_6_code 50 (.areturn) 1 51 := ⟨by decide +kernel, rfl⟩
set_option maxRecDepth 65536 in
set_option maxHeartbeats 40000000 in
theorem c_make2 (l : Launch) (Z : State) (a0 : Array Value) (hw : ∀ d ∈ tables_1, d.before a0 Z = true) (hE : EW Z a0 EL0) {n0 : Nat} {h0 : Heap} (hO : Old Z n0 h0) (hG : Gl Z) {x0 x1 x2 x3 : Int32} (q0 : ¬ x0 < 0 ∧ ¬ (255 : Int32) < x0) (q1 : ¬ x1 < 0 ∧ ¬ (255 : Int32) < x1) (q2 : ¬ x2 < 0 ∧ ¬ (255 : Int32) < x2) (q3 : ¬ x3 < 0 ∧ ¬ (255 : Int32) < x3) :
    Ctr NW EL0 n0 Z [] l (⟨"com/example/tributary/tributary/MediaTypesOfPinLaw", "make", "(ICCCC)Ljava/lang/String;"⟩ : MethodName) method_6_code 5 (some (.object "java/lang/String")) ({ frames := 4, cells := 3, slots := 12, locals := 66 } : Room) #[.int (Int32.ofNat 2), .int x0, .int x1, .int x2, .int x3] h0 (RV fun w h => ∃ r, w = .ref r ∧ Ext h0 h ∧ Str Z h r ([x0, x1, x2, x3].take 2)) := by
  refine Ctr.body (plainFor_of_name pn_8) hE hO (fun x q => nomatch q) (L0 := #[.val (.int (Int32.ofNat 2)), .val (.int x0), .val (.int x1), .val (.int x2), .val (.int x3)]) (fun m => by first | (simp [entryFrame, mkF, argsToLocals, Value.category, maxLocals]; done) | rfl) ?_
  intro p e s m below meth c T0 W0
  refine Go.iload_n W0.cx d_method_6_0 (v := (Int32.ofNat 2)) rfl ?_
  refine Go.ifne W0.cx d_method_6_1 (by decide) (q := 7) rfl (fun _ => ?_) (fun hh => (by first | exact absurd (by decide : ¬ Int32.ofNat 2 = 0) hh | exact absurd hh (by decide : ¬ Int32.ofNat 2 = 0)))
  refine Go.iload_n W0.cx d_method_6_7 (v := (Int32.ofNat 2)) rfl ?_
  refine Go.iconst W0.cx d_method_6_8 (z := (1 : Int32)) rfl ?_
  refine Go.icne W0.cx d_method_6_9 (by decide) (q := 27) rfl (fun _ => ?_) (fun hh => (by first | exact absurd (by decide : ¬ Int32.ofNat 2 = 1) hh | exact absurd hh (by decide : ¬ Int32.ofNat 2 = 1)))
  refine Go.iload_n W0.cx d_method_6_27 (v := (Int32.ofNat 2)) rfl ?_
  refine Go.iconst W0.cx d_method_6_28 (z := (2 : Int32)) rfl ?_
  refine Go.icne W0.cx d_method_6_29 (by decide) (q := 51) rfl (fun hh => (by first | exact absurd (by decide : Int32.ofNat 2 = 2) hh | exact absurd hh (by decide : Int32.ofNat 2 = 2))) (fun _ => ?_)
  refine Go.new W0 d_method_6_32 (wd hw 90 rfl) (wd hw 10 rfl) (wd hw 9 rfl) (cells' := 1) (slots' := 4) rfl rfl (by decide) (by decide) ?_
  intro T1 h1 a1 g1 W1 E1 A1 D1
  have N1 : NewS Z h1 a1 := ⟨A1, D1 (Or.inr (wd hw 12 rfl)) (t := .array .byte) (by decide), D1 (Or.inr (wd hw 13 rfl)) (t := .byte) (by decide)⟩
  refine Go.dup W1.cx d_method_6_35 rfl ?_
  refine Go.iconst W1.cx d_method_6_36 (z := (2 : Int32)) rfl ?_
  refine Go.newarr W1 d_method_6_37 (wd hw 84 rfl) (z := (2 : Int32)) (cap := 2) (by decide) (by decide) (by decide) (cells' := 2) (slots' := 6) rfl rfl (by decide) (by decide) ?_
  intro T2 h2 a2 ka2 g2 W2 E2 A2
  have V2 : CArr Z h2 a2 ka2 [0, 0] := CArr.of_new A2 (k := 2) rfl rfl
  have X2 : Ext h0 h2 := ext_trans E1 E2
  have N2 := N1.ext E2
  refine Go.dup W2.cx d_method_6_39 rfl ?_
  refine Go.iconst W2.cx d_method_6_40 (z := (0 : Int32)) rfl ?_
  refine Go.iload_n W2.cx d_method_6_41 (v := x0) rfl ?_
  refine Go.castore W2 0 d_method_6_42 V2 (by simp) rfl (Nat.le_of_ble_eq_true rfl) (Nat.le_of_ble_eq_true rfl) (x' := x0) (nar_ch q0) ?_
  intro T3 h3 W3 K3 V3
  have V3 : CArr Z h3 a2 ka2 [x0, 0] := V3
  have N3 := N2.keep K3 (nin1 N1.1.lt g2)
  have X3 : Ext h0 h3 := ext_keep X2 K3 (all1 (by rw [g2]; exact E1.1))
  refine Go.dup W3.cx d_method_6_43 rfl ?_
  refine Go.iconst W3.cx d_method_6_44 (z := (1 : Int32)) rfl ?_
  refine Go.iload_n W3.cx d_method_6_45 (v := x1) rfl ?_
  refine Go.castore W3 1 d_method_6_46 V3 (by simp) rfl (Nat.le_of_ble_eq_true rfl) (Nat.le_of_ble_eq_true rfl) (x' := x1) (nar_ch q1) ?_
  intro T4 h4 W4 K4 V4
  have V4 : CArr Z h4 a2 ka2 [x0, x1] := V4
  have N4 := N3.keep K4 (nin1 N1.1.lt g2)
  have X4 : Ext h0 h4 := ext_keep X3 K4 (all1 (by rw [g2]; exact E1.1))
  have hp5 : ∀ c ∈ [x0, x1], ¬ c < 0 ∧ ¬ (255 : Int32) < c := all_cons (q0) (all_cons (q1) (all_nil))
  refine Go.invi W4 (newStr (wt := 1) W4.ew hw hG N4 V4 (W4.mine (by simp)) (by simp) hp5 (Nat.le_of_ble_eq_true rfl) (Nat.le_of_ble_eq_true rfl) (by decide) (by decide)) d_method_6_47 rfl (wd hw 91 rfl) (wd hw 92 rfl) (wd hw 93 rfl) (by decide) pd_19 rfl rfl (rest := [(.ref a1)]) rfl (Nat.le_of_eq rfl) (cells' := 3) (slots' := 8) rfl rfl (by decide) (by decide) ?_
  rintro T6 h6 W6 z6 ⟨K6, S6⟩
  have X6 : Ext h0 h6 := ext_keep X4 K6 (all1 (Nat.le_of_eq g1.symm))
  exact Go.aret W6 d_method_6_50 rfl rfl rfl (by decide) (by decide) ⟨_, rfl, a1, rfl, X6, S6⟩
theorem d_method_6_51 : Dec method_6_code 51 (.iload_n 0) 1 52 := ⟨by decide +kernel, rfl⟩
theorem d_method_6_52 : Dec method_6_code 52 (.iconst 3) 1 53 := ⟨by decide +kernel, rfl⟩
theorem d_method_6_53 : Dec method_6_code 53 (.if_icmp .ne 26) 3 56 := ⟨by decide +kernel, rfl⟩
theorem d_method_6_56 : Dec method_6_code 56 (.new 33) 3 59 := ⟨by decide +kernel, rfl⟩
theorem d_method_6_59 : Dec method_6_code 59 (.dup) 1 60 := ⟨by decide +kernel, rfl⟩
theorem d_method_6_60 : Dec method_6_code 60 (.iconst 3) 1 61 := ⟨by decide +kernel, rfl⟩
theorem d_method_6_61 : Dec method_6_code 61 (.newarray .char) 2 63 := ⟨by decide +kernel, rfl⟩
theorem d_method_6_63 : Dec method_6_code 63 (.dup) 1 64 := ⟨by decide +kernel, rfl⟩
theorem d_method_6_64 : Dec method_6_code 64 (.iconst 0) 1 65 := ⟨by decide +kernel, rfl⟩
theorem d_method_6_65 : Dec method_6_code 65 (.iload_n 1) 1 66 := ⟨by decide +kernel, rfl⟩
theorem d_method_6_66 : Dec method_6_code 66 (.castore) 1 67 := ⟨by decide +kernel, rfl⟩
theorem d_method_6_67 : Dec method_6_code 67 (.dup) 1 68 := ⟨by decide +kernel, rfl⟩
theorem d_method_6_68 : Dec method_6_code 68 (.iconst 1) 1 69 := ⟨by decide +kernel, rfl⟩
theorem d_method_6_69 : Dec method_6_code 69 (.iload_n 2) 1 70 := ⟨by decide +kernel, rfl⟩
theorem d_method_6_70 : Dec method_6_code 70 (.castore) 1 71 := ⟨by decide +kernel, rfl⟩
theorem d_method_6_71 : Dec method_6_code 71 (.dup) 1 72 := ⟨by decide +kernel, rfl⟩
theorem d_method_6_72 : Dec method_6_code 72 (.iconst 2) 1 73 := ⟨by decide +kernel, rfl⟩
theorem d_method_6_73 : Dec method_6_code 73 (.iload_n 3) 1 74 := ⟨by decide +kernel, rfl⟩
theorem d_method_6_74 : Dec method_6_code 74 (.castore) 1 75 := ⟨by decide +kernel, rfl⟩
theorem d_method_6_75 : Dec method_6_code 75 (.invokespecial 40) 3 78 := ⟨by decide +kernel, rfl⟩
theorem d_method_6_78 : Dec method_6_code 78 (.areturn) 1 79 := ⟨by decide +kernel, rfl⟩
set_option maxRecDepth 65536 in
set_option maxHeartbeats 40000000 in
theorem c_make3 (l : Launch) (Z : State) (a0 : Array Value) (hw : ∀ d ∈ tables_1, d.before a0 Z = true) (hE : EW Z a0 EL0) {n0 : Nat} {h0 : Heap} (hO : Old Z n0 h0) (hG : Gl Z) {x0 x1 x2 x3 : Int32} (q0 : ¬ x0 < 0 ∧ ¬ (255 : Int32) < x0) (q1 : ¬ x1 < 0 ∧ ¬ (255 : Int32) < x1) (q2 : ¬ x2 < 0 ∧ ¬ (255 : Int32) < x2) (q3 : ¬ x3 < 0 ∧ ¬ (255 : Int32) < x3) :
    Ctr NW EL0 n0 Z [] l (⟨"com/example/tributary/tributary/MediaTypesOfPinLaw", "make", "(ICCCC)Ljava/lang/String;"⟩ : MethodName) method_6_code 5 (some (.object "java/lang/String")) ({ frames := 4, cells := 3, slots := 12, locals := 66 } : Room) #[.int (Int32.ofNat 3), .int x0, .int x1, .int x2, .int x3] h0 (RV fun w h => ∃ r, w = .ref r ∧ Ext h0 h ∧ Str Z h r ([x0, x1, x2, x3].take 3)) := by
  refine Ctr.body (plainFor_of_name pn_8) hE hO (fun x q => nomatch q) (L0 := #[.val (.int (Int32.ofNat 3)), .val (.int x0), .val (.int x1), .val (.int x2), .val (.int x3)]) (fun m => by first | (simp [entryFrame, mkF, argsToLocals, Value.category, maxLocals]; done) | rfl) ?_
  intro p e s m below meth c T0 W0
  refine Go.iload_n W0.cx d_method_6_0 (v := (Int32.ofNat 3)) rfl ?_
  refine Go.ifne W0.cx d_method_6_1 (by decide) (q := 7) rfl (fun _ => ?_) (fun hh => (by first | exact absurd (by decide : ¬ Int32.ofNat 3 = 0) hh | exact absurd hh (by decide : ¬ Int32.ofNat 3 = 0)))
  refine Go.iload_n W0.cx d_method_6_7 (v := (Int32.ofNat 3)) rfl ?_
  refine Go.iconst W0.cx d_method_6_8 (z := (1 : Int32)) rfl ?_
  refine Go.icne W0.cx d_method_6_9 (by decide) (q := 27) rfl (fun _ => ?_) (fun hh => (by first | exact absurd (by decide : ¬ Int32.ofNat 3 = 1) hh | exact absurd hh (by decide : ¬ Int32.ofNat 3 = 1)))
  refine Go.iload_n W0.cx d_method_6_27 (v := (Int32.ofNat 3)) rfl ?_
  refine Go.iconst W0.cx d_method_6_28 (z := (2 : Int32)) rfl ?_
  refine Go.icne W0.cx d_method_6_29 (by decide) (q := 51) rfl (fun _ => ?_) (fun hh => (by first | exact absurd (by decide : ¬ Int32.ofNat 3 = 2) hh | exact absurd hh (by decide : ¬ Int32.ofNat 3 = 2)))
  refine Go.iload_n W0.cx d_method_6_51 (v := (Int32.ofNat 3)) rfl ?_
  refine Go.iconst W0.cx d_method_6_52 (z := (3 : Int32)) rfl ?_
  refine Go.icne W0.cx d_method_6_53 (by decide) (q := 79) rfl (fun hh => (by first | exact absurd (by decide : Int32.ofNat 3 = 3) hh | exact absurd hh (by decide : Int32.ofNat 3 = 3))) (fun _ => ?_)
  refine Go.new W0 d_method_6_56 (wd hw 90 rfl) (wd hw 10 rfl) (wd hw 9 rfl) (cells' := 1) (slots' := 4) rfl rfl (by decide) (by decide) ?_
  intro T1 h1 a1 g1 W1 E1 A1 D1
  have N1 : NewS Z h1 a1 := ⟨A1, D1 (Or.inr (wd hw 12 rfl)) (t := .array .byte) (by decide), D1 (Or.inr (wd hw 13 rfl)) (t := .byte) (by decide)⟩
  refine Go.dup W1.cx d_method_6_59 rfl ?_
  refine Go.iconst W1.cx d_method_6_60 (z := (3 : Int32)) rfl ?_
  refine Go.newarr W1 d_method_6_61 (wd hw 84 rfl) (z := (3 : Int32)) (cap := 3) (by decide) (by decide) (by decide) (cells' := 2) (slots' := 7) rfl rfl (by decide) (by decide) ?_
  intro T2 h2 a2 ka2 g2 W2 E2 A2
  have V2 : CArr Z h2 a2 ka2 [0, 0, 0] := CArr.of_new A2 (k := 3) rfl rfl
  have X2 : Ext h0 h2 := ext_trans E1 E2
  have N2 := N1.ext E2
  refine Go.dup W2.cx d_method_6_63 rfl ?_
  refine Go.iconst W2.cx d_method_6_64 (z := (0 : Int32)) rfl ?_
  refine Go.iload_n W2.cx d_method_6_65 (v := x0) rfl ?_
  refine Go.castore W2 0 d_method_6_66 V2 (by simp) rfl (Nat.le_of_ble_eq_true rfl) (Nat.le_of_ble_eq_true rfl) (x' := x0) (nar_ch q0) ?_
  intro T3 h3 W3 K3 V3
  have V3 : CArr Z h3 a2 ka2 [x0, 0, 0] := V3
  have N3 := N2.keep K3 (nin1 N1.1.lt g2)
  have X3 : Ext h0 h3 := ext_keep X2 K3 (all1 (by rw [g2]; exact E1.1))
  refine Go.dup W3.cx d_method_6_67 rfl ?_
  refine Go.iconst W3.cx d_method_6_68 (z := (1 : Int32)) rfl ?_
  refine Go.iload_n W3.cx d_method_6_69 (v := x1) rfl ?_
  refine Go.castore W3 1 d_method_6_70 V3 (by simp) rfl (Nat.le_of_ble_eq_true rfl) (Nat.le_of_ble_eq_true rfl) (x' := x1) (nar_ch q1) ?_
  intro T4 h4 W4 K4 V4
  have V4 : CArr Z h4 a2 ka2 [x0, x1, 0] := V4
  have N4 := N3.keep K4 (nin1 N1.1.lt g2)
  have X4 : Ext h0 h4 := ext_keep X3 K4 (all1 (by rw [g2]; exact E1.1))
  refine Go.dup W4.cx d_method_6_71 rfl ?_
  refine Go.iconst W4.cx d_method_6_72 (z := (2 : Int32)) rfl ?_
  refine Go.iload_n W4.cx d_method_6_73 (v := x2) rfl ?_
  refine Go.castore W4 2 d_method_6_74 V4 (by simp) rfl (Nat.le_of_ble_eq_true rfl) (Nat.le_of_ble_eq_true rfl) (x' := x2) (nar_ch q2) ?_
  intro T5 h5 W5 K5 V5
  have V5 : CArr Z h5 a2 ka2 [x0, x1, x2] := V5
  have N5 := N4.keep K5 (nin1 N1.1.lt g2)
  have X5 : Ext h0 h5 := ext_keep X4 K5 (all1 (by rw [g2]; exact E1.1))
  have hp6 : ∀ c ∈ [x0, x1, x2], ¬ c < 0 ∧ ¬ (255 : Int32) < c := all_cons (q0) (all_cons (q1) (all_cons (q2) (all_nil)))
  refine Go.invi W5 (newStr (wt := 1) W5.ew hw hG N5 V5 (W5.mine (by simp)) (by simp) hp6 (Nat.le_of_ble_eq_true rfl) (Nat.le_of_ble_eq_true rfl) (by decide) (by decide)) d_method_6_75 rfl (wd hw 91 rfl) (wd hw 92 rfl) (wd hw 93 rfl) (by decide) pd_19 rfl rfl (rest := [(.ref a1)]) rfl (Nat.le_of_eq rfl) (cells' := 3) (slots' := 10) rfl rfl (by decide) (by decide) ?_
  rintro T7 h7 W7 z7 ⟨K7, S7⟩
  have X7 : Ext h0 h7 := ext_keep X5 K7 (all1 (Nat.le_of_eq g1.symm))
  exact Go.aret W7 d_method_6_78 rfl rfl rfl (by decide) (by decide) ⟨_, rfl, a1, rfl, X7, S7⟩
theorem d_method_6_79 : Dec method_6_code 79 (.new 33) 3 82 := ⟨by decide +kernel, rfl⟩
theorem d_method_6_82 : Dec method_6_code 82 (.dup) 1 83 := ⟨by decide +kernel, rfl⟩
theorem d_method_6_83 : Dec method_6_code 83 (.iconst 4) 1 84 := ⟨by decide +kernel, rfl⟩
theorem d_method_6_84 : Dec method_6_code 84 (.newarray .char) 2 86 := ⟨by decide +kernel, rfl⟩
theorem d_method_6_86 : Dec method_6_code 86 (.dup) 1 87 := ⟨by decide +kernel, rfl⟩
theorem d_method_6_87 : Dec method_6_code 87 (.iconst 0) 1 88 := ⟨by decide +kernel, rfl⟩
theorem d_method_6_88 : Dec method_6_code 88 (.iload_n 1) 1 89 := ⟨by decide +kernel, rfl⟩
theorem d_method_6_89 : Dec method_6_code 89 (.castore) 1 90 := ⟨by decide +kernel, rfl⟩
theorem d_method_6_90 : Dec method_6_code 90 (.dup) 1 91 := ⟨by decide +kernel, rfl⟩
theorem d_method_6_91 : Dec method_6_code 91 (.iconst 1) 1 92 := ⟨by decide +kernel, rfl⟩
theorem d_method_6_92 : Dec method_6_code 92 (.iload_n 2) 1 93 := ⟨by decide +kernel, rfl⟩
theorem d_method_6_93 : Dec method_6_code 93 (.castore) 1 94 := ⟨by decide +kernel, rfl⟩
theorem d_method_6_94 : Dec method_6_code 94 (.dup) 1 95 := ⟨by decide +kernel, rfl⟩
theorem d_method_6_95 : Dec method_6_code 95 (.iconst 2) 1 96 := ⟨by decide +kernel, rfl⟩
theorem d_method_6_96 : Dec method_6_code 96 (.iload_n 3) 1 97 := ⟨by decide +kernel, rfl⟩
theorem d_method_6_97 : Dec method_6_code 97 (.castore) 1 98 := ⟨by decide +kernel, rfl⟩
theorem d_method_6_98 : Dec method_6_code 98 (.dup) 1 99 := ⟨by decide +kernel, rfl⟩
theorem d_method_6_99 : Dec method_6_code 99 (.iconst 3) 1 100 := ⟨by decide +kernel, rfl⟩
theorem d_method_6_100 : Dec method_6_code 100 (.iload 4) 2 102 := ⟨by decide +kernel, rfl⟩
theorem d_method_6_102 : Dec method_6_code 102 (.castore) 1 103 := ⟨by decide +kernel, rfl⟩
theorem d_method_6_103 : Dec method_6_code 103 (.invokespecial 40) 3 106 := ⟨by decide +kernel, rfl⟩
theorem d_method_6_106 : Dec method_6_code 106 (.areturn) 1 107 := ⟨by decide +kernel, rfl⟩
set_option maxRecDepth 65536 in
set_option maxHeartbeats 40000000 in
theorem c_make4 (l : Launch) (Z : State) (a0 : Array Value) (hw : ∀ d ∈ tables_1, d.before a0 Z = true) (hE : EW Z a0 EL0) {n0 : Nat} {h0 : Heap} (hO : Old Z n0 h0) (hG : Gl Z) {x0 x1 x2 x3 : Int32} (q0 : ¬ x0 < 0 ∧ ¬ (255 : Int32) < x0) (q1 : ¬ x1 < 0 ∧ ¬ (255 : Int32) < x1) (q2 : ¬ x2 < 0 ∧ ¬ (255 : Int32) < x2) (q3 : ¬ x3 < 0 ∧ ¬ (255 : Int32) < x3) :
    Ctr NW EL0 n0 Z [] l (⟨"com/example/tributary/tributary/MediaTypesOfPinLaw", "make", "(ICCCC)Ljava/lang/String;"⟩ : MethodName) method_6_code 5 (some (.object "java/lang/String")) ({ frames := 4, cells := 3, slots := 12, locals := 66 } : Room) #[.int (Int32.ofNat 4), .int x0, .int x1, .int x2, .int x3] h0 (RV fun w h => ∃ r, w = .ref r ∧ Ext h0 h ∧ Str Z h r ([x0, x1, x2, x3].take 4)) := by
  refine Ctr.body (plainFor_of_name pn_8) hE hO (fun x q => nomatch q) (L0 := #[.val (.int (Int32.ofNat 4)), .val (.int x0), .val (.int x1), .val (.int x2), .val (.int x3)]) (fun m => by first | (simp [entryFrame, mkF, argsToLocals, Value.category, maxLocals]; done) | rfl) ?_
  intro p e s m below meth c T0 W0
  refine Go.iload_n W0.cx d_method_6_0 (v := (Int32.ofNat 4)) rfl ?_
  refine Go.ifne W0.cx d_method_6_1 (by decide) (q := 7) rfl (fun _ => ?_) (fun hh => (by first | exact absurd (by decide : ¬ Int32.ofNat 4 = 0) hh | exact absurd hh (by decide : ¬ Int32.ofNat 4 = 0)))
  refine Go.iload_n W0.cx d_method_6_7 (v := (Int32.ofNat 4)) rfl ?_
  refine Go.iconst W0.cx d_method_6_8 (z := (1 : Int32)) rfl ?_
  refine Go.icne W0.cx d_method_6_9 (by decide) (q := 27) rfl (fun _ => ?_) (fun hh => (by first | exact absurd (by decide : ¬ Int32.ofNat 4 = 1) hh | exact absurd hh (by decide : ¬ Int32.ofNat 4 = 1)))
  refine Go.iload_n W0.cx d_method_6_27 (v := (Int32.ofNat 4)) rfl ?_
  refine Go.iconst W0.cx d_method_6_28 (z := (2 : Int32)) rfl ?_
  refine Go.icne W0.cx d_method_6_29 (by decide) (q := 51) rfl (fun _ => ?_) (fun hh => (by first | exact absurd (by decide : ¬ Int32.ofNat 4 = 2) hh | exact absurd hh (by decide : ¬ Int32.ofNat 4 = 2)))
  refine Go.iload_n W0.cx d_method_6_51 (v := (Int32.ofNat 4)) rfl ?_
  refine Go.iconst W0.cx d_method_6_52 (z := (3 : Int32)) rfl ?_
  refine Go.icne W0.cx d_method_6_53 (by decide) (q := 79) rfl (fun _ => ?_) (fun hh => (by first | exact absurd (by decide : ¬ Int32.ofNat 4 = 3) hh | exact absurd hh (by decide : ¬ Int32.ofNat 4 = 3)))
  refine Go.new W0 d_method_6_79 (wd hw 90 rfl) (wd hw 10 rfl) (wd hw 9 rfl) (cells' := 1) (slots' := 4) rfl rfl (by decide) (by decide) ?_
  intro T1 h1 a1 g1 W1 E1 A1 D1
  have N1 : NewS Z h1 a1 := ⟨A1, D1 (Or.inr (wd hw 12 rfl)) (t := .array .byte) (by decide), D1 (Or.inr (wd hw 13 rfl)) (t := .byte) (by decide)⟩
  refine Go.dup W1.cx d_method_6_82 rfl ?_
  refine Go.iconst W1.cx d_method_6_83 (z := (4 : Int32)) rfl ?_
  refine Go.newarr W1 d_method_6_84 (wd hw 84 rfl) (z := (4 : Int32)) (cap := 4) (by decide) (by decide) (by decide) (cells' := 2) (slots' := 8) rfl rfl (by decide) (by decide) ?_
  intro T2 h2 a2 ka2 g2 W2 E2 A2
  have V2 : CArr Z h2 a2 ka2 [0, 0, 0, 0] := CArr.of_new A2 (k := 4) rfl rfl
  have X2 : Ext h0 h2 := ext_trans E1 E2
  have N2 := N1.ext E2
  refine Go.dup W2.cx d_method_6_86 rfl ?_
  refine Go.iconst W2.cx d_method_6_87 (z := (0 : Int32)) rfl ?_
  refine Go.iload_n W2.cx d_method_6_88 (v := x0) rfl ?_
  refine Go.castore W2 0 d_method_6_89 V2 (by simp) rfl (Nat.le_of_ble_eq_true rfl) (Nat.le_of_ble_eq_true rfl) (x' := x0) (nar_ch q0) ?_
  intro T3 h3 W3 K3 V3
  have V3 : CArr Z h3 a2 ka2 [x0, 0, 0, 0] := V3
  have N3 := N2.keep K3 (nin1 N1.1.lt g2)
  have X3 : Ext h0 h3 := ext_keep X2 K3 (all1 (by rw [g2]; exact E1.1))
  refine Go.dup W3.cx d_method_6_90 rfl ?_
  refine Go.iconst W3.cx d_method_6_91 (z := (1 : Int32)) rfl ?_
  refine Go.iload_n W3.cx d_method_6_92 (v := x1) rfl ?_
  refine Go.castore W3 1 d_method_6_93 V3 (by simp) rfl (Nat.le_of_ble_eq_true rfl) (Nat.le_of_ble_eq_true rfl) (x' := x1) (nar_ch q1) ?_
  intro T4 h4 W4 K4 V4
  have V4 : CArr Z h4 a2 ka2 [x0, x1, 0, 0] := V4
  have N4 := N3.keep K4 (nin1 N1.1.lt g2)
  have X4 : Ext h0 h4 := ext_keep X3 K4 (all1 (by rw [g2]; exact E1.1))
  refine Go.dup W4.cx d_method_6_94 rfl ?_
  refine Go.iconst W4.cx d_method_6_95 (z := (2 : Int32)) rfl ?_
  refine Go.iload_n W4.cx d_method_6_96 (v := x2) rfl ?_
  refine Go.castore W4 2 d_method_6_97 V4 (by simp) rfl (Nat.le_of_ble_eq_true rfl) (Nat.le_of_ble_eq_true rfl) (x' := x2) (nar_ch q2) ?_
  intro T5 h5 W5 K5 V5
  have V5 : CArr Z h5 a2 ka2 [x0, x1, x2, 0] := V5
  have N5 := N4.keep K5 (nin1 N1.1.lt g2)
  have X5 : Ext h0 h5 := ext_keep X4 K5 (all1 (by rw [g2]; exact E1.1))
  refine Go.dup W5.cx d_method_6_98 rfl ?_
  refine Go.iconst W5.cx d_method_6_99 (z := (3 : Int32)) rfl ?_
  refine Go.iload W5.cx d_method_6_100 (v := x3) rfl ?_
  refine Go.castore W5 3 d_method_6_102 V5 (by simp) rfl (Nat.le_of_ble_eq_true rfl) (Nat.le_of_ble_eq_true rfl) (x' := x3) (nar_ch q3) ?_
  intro T6 h6 W6 K6 V6
  have V6 : CArr Z h6 a2 ka2 [x0, x1, x2, x3] := V6
  have N6 := N5.keep K6 (nin1 N1.1.lt g2)
  have X6 : Ext h0 h6 := ext_keep X5 K6 (all1 (by rw [g2]; exact E1.1))
  have hp7 : ∀ c ∈ [x0, x1, x2, x3], ¬ c < 0 ∧ ¬ (255 : Int32) < c := all_cons (q0) (all_cons (q1) (all_cons (q2) (all_cons (q3) (all_nil))))
  refine Go.invi W6 (newStr (wt := 1) W6.ew hw hG N6 V6 (W6.mine (by simp)) (by simp) hp7 (Nat.le_of_ble_eq_true rfl) (Nat.le_of_ble_eq_true rfl) (by decide) (by decide)) d_method_6_103 rfl (wd hw 91 rfl) (wd hw 92 rfl) (wd hw 93 rfl) (by decide) pd_19 rfl rfl (rest := [(.ref a1)]) rfl (Nat.le_of_eq rfl) (cells' := 3) (slots' := 12) rfl rfl (by decide) (by decide) ?_
  rintro T8 h8 W8 z8 ⟨K8, S8⟩
  have X8 : Ext h0 h8 := ext_keep X6 K8 (all1 (Nat.le_of_eq g1.symm))
  exact Go.aret W8 d_method_6_106 rfl rfl rfl (by decide) (by decide) ⟨_, rfl, a1, rfl, X8, S8⟩
theorem c_make (l : Launch) (Z : State) (a0 : Array Value) (hw : ∀ d ∈ tables_1, d.before a0 Z = true) (hE : EW Z a0 EL0) {n0 : Nat} {h0 : Heap} (hO : Old Z n0 h0) (hG : Gl Z) {x0 x1 x2 x3 : Int32} (q0 : ¬ x0 < 0 ∧ ¬ (255 : Int32) < x0) (q1 : ¬ x1 < 0 ∧ ¬ (255 : Int32) < x1) (q2 : ¬ x2 < 0 ∧ ¬ (255 : Int32) < x2) (q3 : ¬ x3 < 0 ∧ ¬ (255 : Int32) < x3) {n : Nat} (hn : n < 5) :
    Ctr NW EL0 n0 Z [] l (⟨"com/example/tributary/tributary/MediaTypesOfPinLaw", "make", "(ICCCC)Ljava/lang/String;"⟩ : MethodName) method_6_code 5 (some (.object "java/lang/String")) ({ frames := 4, cells := 3, slots := 12, locals := 66 } : Room) #[.int (Int32.ofNat n), .int x0, .int x1, .int x2, .int x3] h0 (RV fun w h => ∃ r, w = .ref r ∧ Ext h0 h ∧ Str Z h r ([x0, x1, x2, x3].take n)) := by
  rcases (show n = 0 ∨ n = 1 ∨ n = 2 ∨ n = 3 ∨ n = 4 by omega) with rfl | rfl | rfl | rfl | rfl
  · exact c_make0 l Z a0 hw hE hO hG q0 q1 q2 q3
  · exact c_make1 l Z a0 hw hE hO hG q0 q1 q2 q3
  · exact c_make2 l Z a0 hw hE hO hG q0 q1 q2 q3
  · exact c_make3 l Z a0 hw hE hO hG q0 q1 q2 q3
  · exact c_make4 l Z a0 hw hE hO hG q0 q1 q2 q3
theorem kU {n k k0 k1 k2 k3 : Nat} {P : Nat → Prop} (hn : n ≤ 4) (h1 : k ≤ n) (h2 : ∀ t, t < k → ¬ P t) (h3 : k < n → P k)
    (e3 : ((3 < n ∧ P 3 ∧ k3 = 3) ∨ (¬ (3 < n ∧ P 3) ∧ k3 = n))) (e2 : ((2 < n ∧ P 2 ∧ k2 = 2) ∨ (¬ (2 < n ∧ P 2) ∧ k2 = k3))) (e1 : ((1 < n ∧ P 1 ∧ k1 = 1) ∨ (¬ (1 < n ∧ P 1) ∧ k1 = k2))) (e0 : ((0 < n ∧ P 0 ∧ k0 = 0) ∨ (¬ (0 < n ∧ P 0) ∧ k0 = k1))) : k0 = k := by
  have st : ∀ t, (P t ∧ k ≤ t) ∨ (¬ P t ∧ (k = t → n ≤ t)) := fun t => by
    by_cases q : P t
    · exact Or.inl ⟨q, Nat.not_lt.mp fun z => h2 t z q⟩
    · exact Or.inr ⟨q, fun z => Nat.not_lt.mp fun u => q (z ▸ h3 (z ▸ u))⟩
  rcases st 0 with ⟨q0, r0⟩ | ⟨q0, r0⟩ <;> rcases st 1 with ⟨q1, r1⟩ | ⟨q1, r1⟩ <;> rcases st 2 with ⟨q2, r2⟩ | ⟨q2, r2⟩ <;> rcases st 3 with ⟨q3, r3⟩ | ⟨q3, r3⟩ <;> simp only [q0, q1, q2, q3, true_and, false_and, and_true, and_false, not_false_eq_true, false_or, or_false] at e0 e1 e2 e3 <;> omega
theorem eU {k i j s e0 e1 e2 e3 : Nat} {Q : Nat → Prop} (hk : k ≤ 4) (hs : s = i) (h1 : ∀ t, t < i → ¬ Q t) (h2 : ∀ t, j ≤ t → t < k → ¬ Q t) (h3 : (i = k ∧ j = i) ∨ (i < j ∧ j ≤ k ∧ Q i ∧ Q (j - 1)))
    (f0 : ((0 < k ∧ Q 0 ∧ e0 = 1) ∨ (¬ (0 < k ∧ Q 0) ∧ e0 = s))) (f1 : ((1 < k ∧ Q 1 ∧ e1 = 2) ∨ (¬ (1 < k ∧ Q 1) ∧ e1 = e0))) (f2 : ((2 < k ∧ Q 2 ∧ e2 = 3) ∨ (¬ (2 < k ∧ Q 2) ∧ e2 = e1))) (f3 : ((3 < k ∧ Q 3 ∧ e3 = 4) ∨ (¬ (3 < k ∧ Q 3) ∧ e3 = e2))) : e3 = j := by
  have st : ∀ t, (Q t ∧ (t < k → i ≤ t ∧ t < j)) ∨ (¬ Q t ∧ (i < j → ¬ j = t + 1)) := fun t => by
    by_cases q : Q t
    · exact Or.inl ⟨q, fun z => ⟨Nat.not_lt.mp fun u => h1 t u q, Nat.not_le.mp fun u => h2 t u z q⟩⟩
    · refine Or.inr ⟨q, fun z u => ?_⟩
      rcases h3 with ⟨-, a⟩ | ⟨-, -, -, a⟩
      · omega
      · rw [u] at a; exact q a
  have h4 : (i = k ∧ j = i) ∨ (i < j ∧ j ≤ k) := h3.imp (fun u => u) (fun u => ⟨u.1, u.2.1⟩)
  rcases st 0 with ⟨q0, r0⟩ | ⟨q0, r0⟩ <;> rcases st 1 with ⟨q1, r1⟩ | ⟨q1, r1⟩ <;> rcases st 2 with ⟨q2, r2⟩ | ⟨q2, r2⟩ <;> rcases st 3 with ⟨q3, r3⟩ | ⟨q3, r3⟩ <;> simp only [q0, q1, q2, q3, true_and, false_and, and_true, and_false, not_false_eq_true, false_or, or_false] at f0 f1 f2 f3 <;> omega
theorem dt_range {l : List Int32} {i m : Nat} (h : i + m ≤ l.length) : (l.drop i).take m = (List.range m).map (fun t => l.getD (i + t) 0) := by
  apply List.ext_getElem?
  intro t
  by_cases ht : t < m
  · rw [List.getElem?_take, if_pos ht, List.getElem?_drop, List.getElem?_map, List.getElem?_range ht, List.getElem?_eq_getElem (by omega)]
    simp only [Option.map_some, List.getD_eq_getElem?_getD]
    rw [List.getElem?_eq_getElem (by omega)]
    rfl
  · rw [List.getElem?_eq_none (by rw [List.length_take]; omega), List.getElem?_eq_none (by rw [List.length_map, List.length_range]; omega)]
theorem d_code_0 : Dec code 0 (.iload_n 0) 1 1 := ⟨by decide +kernel, rfl⟩
theorem d_code_1 : Dec code 1 (.ldc 7) 2 3 := ⟨by decide +kernel, rfl⟩
theorem d_code_3 : Dec code 3 (.iand) 1 4 := ⟨by decide +kernel, rfl⟩
theorem d_code_4 : Dec code 4 (.iconst 5) 1 5 := ⟨by decide +kernel, rfl⟩
theorem d_code_5 : Dec code 5 (.irem) 1 6 := ⟨by decide +kernel, rfl⟩
theorem d_code_6 : Dec code 6 (.istore_n 3) 1 7 := ⟨by decide +kernel, rfl⟩
theorem d_code_7 : Dec code 7 (.iload_n 1) 1 8 := ⟨by decide +kernel, rfl⟩
theorem d_code_8 : Dec code 8 (.iload_n 2) 1 9 := ⟨by decide +kernel, rfl⟩
theorem d_code_9 : Dec code 9 (.iconst 0) 1 10 := ⟨by decide +kernel, rfl⟩
theorem d_code_10 : Dec code 10 (.invokestatic 8) 3 13 := ⟨by decide +kernel, rfl⟩
theorem pd_20 : parseMethodDescriptor "(III)C" = some ⟨[.int, .int, .int], some .char⟩ := by decide +kernel
theorem d_code_13 : Dec code 13 (.istore 4) 2 15 := ⟨by decide +kernel, rfl⟩
theorem d_code_15 : Dec code 15 (.iload_n 1) 1 16 := ⟨by decide +kernel, rfl⟩
theorem d_code_16 : Dec code 16 (.iload_n 2) 1 17 := ⟨by decide +kernel, rfl⟩
theorem d_code_17 : Dec code 17 (.iconst 1) 1 18 := ⟨by decide +kernel, rfl⟩
theorem d_code_18 : Dec code 18 (.invokestatic 8) 3 21 := ⟨by decide +kernel, rfl⟩
theorem d_code_21 : Dec code 21 (.istore 5) 2 23 := ⟨by decide +kernel, rfl⟩
theorem d_code_23 : Dec code 23 (.iload_n 1) 1 24 := ⟨by decide +kernel, rfl⟩
theorem d_code_24 : Dec code 24 (.iload_n 2) 1 25 := ⟨by decide +kernel, rfl⟩
theorem d_code_25 : Dec code 25 (.iconst 2) 1 26 := ⟨by decide +kernel, rfl⟩
theorem d_code_26 : Dec code 26 (.invokestatic 8) 3 29 := ⟨by decide +kernel, rfl⟩
theorem d_code_29 : Dec code 29 (.istore 6) 2 31 := ⟨by decide +kernel, rfl⟩
theorem d_code_31 : Dec code 31 (.iload_n 1) 1 32 := ⟨by decide +kernel, rfl⟩
theorem d_code_32 : Dec code 32 (.iload_n 2) 1 33 := ⟨by decide +kernel, rfl⟩
theorem d_code_33 : Dec code 33 (.iconst 3) 1 34 := ⟨by decide +kernel, rfl⟩
theorem d_code_34 : Dec code 34 (.invokestatic 8) 3 37 := ⟨by decide +kernel, rfl⟩
theorem d_code_37 : Dec code 37 (.istore 7) 2 39 := ⟨by decide +kernel, rfl⟩
theorem d_code_39 : Dec code 39 (.iload_n 3) 1 40 := ⟨by decide +kernel, rfl⟩
theorem d_code_40 : Dec code 40 (.iload 4) 2 42 := ⟨by decide +kernel, rfl⟩
theorem d_code_42 : Dec code 42 (.iload 5) 2 44 := ⟨by decide +kernel, rfl⟩
theorem d_code_44 : Dec code 44 (.iload 6) 2 46 := ⟨by decide +kernel, rfl⟩
theorem d_code_46 : Dec code 46 (.iload 7) 2 48 := ⟨by decide +kernel, rfl⟩
theorem d_code_48 : Dec code 48 (.invokestatic 14) 3 51 := ⟨by decide +kernel, rfl⟩
theorem pd_21 : parseMethodDescriptor "(ICCCC)Ljava/lang/String;" = some ⟨[.int, .char, .char, .char, .char], some (.object "java/lang/String")⟩ := by decide +kernel
theorem d_code_51 : Dec code 51 (.astore 8) 2 53 := ⟨by decide +kernel, rfl⟩
theorem d_code_53 : Dec code 53 (.aload 8) 2 55 := ⟨by decide +kernel, rfl⟩
theorem d_code_55 : Dec code 55 (.invokestatic 18) 3 58 := ⟨by decide +kernel, rfl⟩
theorem pd_22 : parseMethodDescriptor "(Ljava/lang/String;)Ljava/lang/String;" = some ⟨[(.object "java/lang/String")], some (.object "java/lang/String")⟩ := by decide +kernel
theorem d_code_58 : Dec code 58 (.astore 9) 2 60 := ⟨by decide +kernel, rfl⟩
theorem d_code_60 : Dec code 60 (.iconst 4) 1 61 := ⟨by decide +kernel, rfl⟩
theorem d_code_61 : Dec code 61 (.newarray .char) 2 63 := ⟨by decide +kernel, rfl⟩
theorem d_code_63 : Dec code 63 (.dup) 1 64 := ⟨by decide +kernel, rfl⟩
theorem d_code_64 : Dec code 64 (.iconst 0) 1 65 := ⟨by decide +kernel, rfl⟩
theorem d_code_65 : Dec code 65 (.iload 4) 2 67 := ⟨by decide +kernel, rfl⟩
theorem d_code_67 : Dec code 67 (.castore) 1 68 := ⟨by decide +kernel, rfl⟩
theorem d_code_68 : Dec code 68 (.dup) 1 69 := ⟨by decide +kernel, rfl⟩
theorem d_code_69 : Dec code 69 (.iconst 1) 1 70 := ⟨by decide +kernel, rfl⟩
theorem d_code_70 : Dec code 70 (.iload 5) 2 72 := ⟨by decide +kernel, rfl⟩
theorem d_code_72 : Dec code 72 (.castore) 1 73 := ⟨by decide +kernel, rfl⟩
theorem d_code_73 : Dec code 73 (.dup) 1 74 := ⟨by decide +kernel, rfl⟩
theorem d_code_74 : Dec code 74 (.iconst 2) 1 75 := ⟨by decide +kernel, rfl⟩
theorem d_code_75 : Dec code 75 (.iload 6) 2 77 := ⟨by decide +kernel, rfl⟩
theorem d_code_77 : Dec code 77 (.castore) 1 78 := ⟨by decide +kernel, rfl⟩
theorem d_code_78 : Dec code 78 (.dup) 1 79 := ⟨by decide +kernel, rfl⟩
theorem d_code_79 : Dec code 79 (.iconst 3) 1 80 := ⟨by decide +kernel, rfl⟩
theorem d_code_80 : Dec code 80 (.iload 7) 2 82 := ⟨by decide +kernel, rfl⟩
theorem d_code_82 : Dec code 82 (.castore) 1 83 := ⟨by decide +kernel, rfl⟩
theorem d_code_83 : Dec code 83 (.astore 10) 2 85 := ⟨by decide +kernel, rfl⟩
theorem d_code_85 : Dec code 85 (.iload_n 3) 1 86 := ⟨by decide +kernel, rfl⟩
theorem d_code_86 : Dec code 86 (.istore 11) 2 88 := ⟨by decide +kernel, rfl⟩
theorem d_code_147 : Dec code 147 (.iload 11) 2 149 := ⟨by decide +kernel, rfl⟩
theorem d_code_149 : Dec code 149 (.istore 12) 2 151 := ⟨by decide +kernel, rfl⟩
theorem d_code_218 : Dec code 218 (.iload 12) 2 220 := ⟨by decide +kernel, rfl⟩
theorem d_code_220 : Dec code 220 (.istore 13) 2 222 := ⟨by decide +kernel, rfl⟩
theorem d_code_289 : Dec code 289 (.iload 13) 2 291 := ⟨by decide +kernel, rfl⟩
theorem d_code_291 : Dec code 291 (.iload 12) 2 293 := ⟨by decide +kernel, rfl⟩
theorem d_code_293 : Dec code 293 (.isub) 1 294 := ⟨by decide +kernel, rfl⟩
theorem d_code_294 : Dec code 294 (.istore 14) 2 296 := ⟨by decide +kernel, rfl⟩
theorem d_code_296 : Dec code 296 (.iload 14) 2 298 := ⟨by decide +kernel, rfl⟩
theorem d_code_298 : Dec code 298 (.ifCond .le 14) 3 301 := ⟨by decide +kernel, rfl⟩
theorem d_code_312 : Dec code 312 (.bipush 120) 2 314 := ⟨by decide +kernel, rfl⟩
theorem d_code_314 : Dec code 314 (.istore 15) 2 316 := ⟨by decide +kernel, rfl⟩
theorem d_code_316 : Dec code 316 (.iload 14) 2 318 := ⟨by decide +kernel, rfl⟩
theorem d_code_318 : Dec code 318 (.iconst 1) 1 319 := ⟨by decide +kernel, rfl⟩
theorem d_code_319 : Dec code 319 (.if_icmp .le 16) 3 322 := ⟨by decide +kernel, rfl⟩
theorem d_code_335 : Dec code 335 (.bipush 120) 2 337 := ⟨by decide +kernel, rfl⟩
theorem d_code_337 : Dec code 337 (.istore 16) 2 339 := ⟨by decide +kernel, rfl⟩
theorem d_code_339 : Dec code 339 (.iload 14) 2 341 := ⟨by decide +kernel, rfl⟩
theorem d_code_341 : Dec code 341 (.iconst 2) 1 342 := ⟨by decide +kernel, rfl⟩
theorem d_code_342 : Dec code 342 (.if_icmp .le 16) 3 345 := ⟨by decide +kernel, rfl⟩
theorem d_code_358 : Dec code 358 (.bipush 120) 2 360 := ⟨by decide +kernel, rfl⟩
theorem d_code_360 : Dec code 360 (.istore 17) 2 362 := ⟨by decide +kernel, rfl⟩
theorem d_code_362 : Dec code 362 (.iload 14) 2 364 := ⟨by decide +kernel, rfl⟩
theorem d_code_364 : Dec code 364 (.iconst 3) 1 365 := ⟨by decide +kernel, rfl⟩
theorem d_code_365 : Dec code 365 (.if_icmp .le 16) 3 368 := ⟨by decide +kernel, rfl⟩
theorem d_code_381 : Dec code 381 (.bipush 120) 2 383 := ⟨by decide +kernel, rfl⟩
theorem d_code_383 : Dec code 383 (.istore 18) 2 385 := ⟨by decide +kernel, rfl⟩
theorem d_code_385 : Dec code 385 (.iload 14) 2 387 := ⟨by decide +kernel, rfl⟩
theorem d_code_387 : Dec code 387 (.iload 15) 2 389 := ⟨by decide +kernel, rfl⟩
theorem d_code_389 : Dec code 389 (.iload 16) 2 391 := ⟨by decide +kernel, rfl⟩
theorem d_code_391 : Dec code 391 (.iload 17) 2 393 := ⟨by decide +kernel, rfl⟩
theorem d_code_393 : Dec code 393 (.iload 18) 2 395 := ⟨by decide +kernel, rfl⟩
theorem d_code_395 : Dec code 395 (.invokestatic 14) 3 398 := ⟨by decide +kernel, rfl⟩
theorem d_code_398 : Dec code 398 (.astore 19) 2 400 := ⟨by decide +kernel, rfl⟩
theorem d_code_400 : Dec code 400 (.aload 19) 2 402 := ⟨by decide +kernel, rfl⟩
theorem d_code_402 : Dec code 402 (.aload 9) 2 404 := ⟨by decide +kernel, rfl⟩
theorem d_code_404 : Dec code 404 (.invokevirtual 32) 3 407 := ⟨by decide +kernel, rfl⟩
theorem pd_23 : parseMethodDescriptor "(Ljava/lang/Object;)Z" = some ⟨[(.object "java/lang/Object")], some .boolean⟩ := by decide +kernel
theorem d_code_407 : Dec code 407 (.ireturn) 1 408 := ⟨by decide +kernel, rfl⟩
theorem d_code_301 : Dec code 301 (.aload 10) 2 303 := ⟨by decide +kernel, rfl⟩
theorem d_code_303 : Dec code 303 (.iload 12) 2 305 := ⟨by decide +kernel, rfl⟩
theorem d_code_305 : Dec code 305 (.caload) 1 306 := ⟨by decide +kernel, rfl⟩
theorem d_code_306 : Dec code 306 (.invokestatic 28) 3 309 := ⟨by decide +kernel, rfl⟩
theorem pd_24 : parseMethodDescriptor "(C)C" = some ⟨[.char], some .char⟩ := by decide +kernel
theorem d_code_309 : Dec code 309 (.goto 5) 3 312 := ⟨by decide +kernel, rfl⟩
theorem d_code_322 : Dec code 322 (.aload 10) 2 324 := ⟨by decide +kernel, rfl⟩
theorem d_code_324 : Dec code 324 (.iload 12) 2 326 := ⟨by decide +kernel, rfl⟩
theorem d_code_326 : Dec code 326 (.iconst 1) 1 327 := ⟨by decide +kernel, rfl⟩
theorem d_code_327 : Dec code 327 (.iadd) 1 328 := ⟨by decide +kernel, rfl⟩
theorem d_code_328 : Dec code 328 (.caload) 1 329 := ⟨by decide +kernel, rfl⟩
theorem d_code_329 : Dec code 329 (.invokestatic 28) 3 332 := ⟨by decide +kernel, rfl⟩
theorem d_code_332 : Dec code 332 (.goto 5) 3 335 := ⟨by decide +kernel, rfl⟩
theorem d_code_345 : Dec code 345 (.aload 10) 2 347 := ⟨by decide +kernel, rfl⟩
theorem d_code_347 : Dec code 347 (.iload 12) 2 349 := ⟨by decide +kernel, rfl⟩
theorem d_code_349 : Dec code 349 (.iconst 2) 1 350 := ⟨by decide +kernel, rfl⟩
theorem d_code_350 : Dec code 350 (.iadd) 1 351 := ⟨by decide +kernel, rfl⟩
theorem d_code_351 : Dec code 351 (.caload) 1 352 := ⟨by decide +kernel, rfl⟩
theorem d_code_352 : Dec code 352 (.invokestatic 28) 3 355 := ⟨by decide +kernel, rfl⟩
theorem d_code_355 : Dec code 355 (.goto 5) 3 358 := ⟨by decide +kernel, rfl⟩
theorem d_code_368 : Dec code 368 (.aload 10) 2 370 := ⟨by decide +kernel, rfl⟩
theorem d_code_370 : Dec code 370 (.iload 12) 2 372 := ⟨by decide +kernel, rfl⟩
theorem d_code_372 : Dec code 372 (.iconst 3) 1 373 := ⟨by decide +kernel, rfl⟩
theorem d_code_373 : Dec code 373 (.iadd) 1 374 := ⟨by decide +kernel, rfl⟩
theorem d_code_374 : Dec code 374 (.caload) 1 375 := ⟨by decide +kernel, rfl⟩
theorem d_code_375 : Dec code 375 (.invokestatic 28) 3 378 := ⟨by decide +kernel, rfl⟩
theorem d_code_378 : Dec code 378 (.goto 5) 3 381 := ⟨by decide +kernel, rfl⟩
theorem d_code_272 : Dec code 272 (.iload 11) 2 274 := ⟨by decide +kernel, rfl⟩
theorem d_code_274 : Dec code 274 (.iconst 3) 1 275 := ⟨by decide +kernel, rfl⟩
theorem d_code_275 : Dec code 275 (.if_icmp .le 14) 3 278 := ⟨by decide +kernel, rfl⟩
theorem d_code_278 : Dec code 278 (.iload 7) 2 280 := ⟨by decide +kernel, rfl⟩
theorem d_code_280 : Dec code 280 (.invokestatic 24) 3 283 := ⟨by decide +kernel, rfl⟩
theorem pd_25 : parseMethodDescriptor "(C)Z" = some ⟨[.char], some .boolean⟩ := by decide +kernel
theorem d_code_283 : Dec code 283 (.ifCond .ne 6) 3 286 := ⟨by decide +kernel, rfl⟩
theorem d_code_286 : Dec code 286 (.iconst 4) 1 287 := ⟨by decide +kernel, rfl⟩
theorem d_code_287 : Dec code 287 (.istore 13) 2 289 := ⟨by decide +kernel, rfl⟩
theorem d_code_255 : Dec code 255 (.iload 11) 2 257 := ⟨by decide +kernel, rfl⟩
theorem d_code_257 : Dec code 257 (.iconst 2) 1 258 := ⟨by decide +kernel, rfl⟩
theorem d_code_258 : Dec code 258 (.if_icmp .le 14) 3 261 := ⟨by decide +kernel, rfl⟩
theorem d_code_261 : Dec code 261 (.iload 6) 2 263 := ⟨by decide +kernel, rfl⟩
theorem d_code_263 : Dec code 263 (.invokestatic 24) 3 266 := ⟨by decide +kernel, rfl⟩
theorem d_code_266 : Dec code 266 (.ifCond .ne 6) 3 269 := ⟨by decide +kernel, rfl⟩
theorem d_code_269 : Dec code 269 (.iconst 3) 1 270 := ⟨by decide +kernel, rfl⟩
theorem d_code_270 : Dec code 270 (.istore 13) 2 272 := ⟨by decide +kernel, rfl⟩
theorem d_code_238 : Dec code 238 (.iload 11) 2 240 := ⟨by decide +kernel, rfl⟩
theorem d_code_240 : Dec code 240 (.iconst 1) 1 241 := ⟨by decide +kernel, rfl⟩
theorem d_code_241 : Dec code 241 (.if_icmp .le 14) 3 244 := ⟨by decide +kernel, rfl⟩
theorem d_code_244 : Dec code 244 (.iload 5) 2 246 := ⟨by decide +kernel, rfl⟩
theorem d_code_246 : Dec code 246 (.invokestatic 24) 3 249 := ⟨by decide +kernel, rfl⟩
theorem d_code_249 : Dec code 249 (.ifCond .ne 6) 3 252 := ⟨by decide +kernel, rfl⟩
theorem d_code_252 : Dec code 252 (.iconst 2) 1 253 := ⟨by decide +kernel, rfl⟩
theorem d_code_253 : Dec code 253 (.istore 13) 2 255 := ⟨by decide +kernel, rfl⟩
theorem d_code_222 : Dec code 222 (.iload 11) 2 224 := ⟨by decide +kernel, rfl⟩
theorem d_code_224 : Dec code 224 (.ifCond .le 14) 3 227 := ⟨by decide +kernel, rfl⟩
theorem d_code_227 : Dec code 227 (.iload 4) 2 229 := ⟨by decide +kernel, rfl⟩
theorem d_code_229 : Dec code 229 (.invokestatic 24) 3 232 := ⟨by decide +kernel, rfl⟩
theorem d_code_232 : Dec code 232 (.ifCond .ne 6) 3 235 := ⟨by decide +kernel, rfl⟩
theorem d_code_235 : Dec code 235 (.iconst 1) 1 236 := ⟨by decide +kernel, rfl⟩
theorem d_code_236 : Dec code 236 (.istore 13) 2 238 := ⟨by decide +kernel, rfl⟩
theorem d_code_202 : Dec code 202 (.iload 11) 2 204 := ⟨by decide +kernel, rfl⟩
theorem d_code_204 : Dec code 204 (.ifCond .le 14) 3 207 := ⟨by decide +kernel, rfl⟩
theorem d_code_207 : Dec code 207 (.iload 4) 2 209 := ⟨by decide +kernel, rfl⟩
theorem d_code_209 : Dec code 209 (.invokestatic 24) 3 212 := ⟨by decide +kernel, rfl⟩
theorem d_code_212 : Dec code 212 (.ifCond .ne 6) 3 215 := ⟨by decide +kernel, rfl⟩
theorem d_code_215 : Dec code 215 (.iconst 0) 1 216 := ⟨by decide +kernel, rfl⟩
theorem d_code_216 : Dec code 216 (.istore 12) 2 218 := ⟨by decide +kernel, rfl⟩
theorem d_code_185 : Dec code 185 (.iload 11) 2 187 := ⟨by decide +kernel, rfl⟩
theorem d_code_187 : Dec code 187 (.iconst 1) 1 188 := ⟨by decide +kernel, rfl⟩
theorem d_code_188 : Dec code 188 (.if_icmp .le 14) 3 191 := ⟨by decide +kernel, rfl⟩
theorem d_code_191 : Dec code 191 (.iload 5) 2 193 := ⟨by decide +kernel, rfl⟩
theorem d_code_193 : Dec code 193 (.invokestatic 24) 3 196 := ⟨by decide +kernel, rfl⟩
theorem d_code_196 : Dec code 196 (.ifCond .ne 6) 3 199 := ⟨by decide +kernel, rfl⟩
theorem d_code_199 : Dec code 199 (.iconst 1) 1 200 := ⟨by decide +kernel, rfl⟩
theorem d_code_200 : Dec code 200 (.istore 12) 2 202 := ⟨by decide +kernel, rfl⟩
theorem d_code_168 : Dec code 168 (.iload 11) 2 170 := ⟨by decide +kernel, rfl⟩
theorem d_code_170 : Dec code 170 (.iconst 2) 1 171 := ⟨by decide +kernel, rfl⟩
theorem d_code_171 : Dec code 171 (.if_icmp .le 14) 3 174 := ⟨by decide +kernel, rfl⟩
theorem d_code_174 : Dec code 174 (.iload 6) 2 176 := ⟨by decide +kernel, rfl⟩
theorem d_code_176 : Dec code 176 (.invokestatic 24) 3 179 := ⟨by decide +kernel, rfl⟩
theorem d_code_179 : Dec code 179 (.ifCond .ne 6) 3 182 := ⟨by decide +kernel, rfl⟩
theorem d_code_182 : Dec code 182 (.iconst 2) 1 183 := ⟨by decide +kernel, rfl⟩
theorem d_code_183 : Dec code 183 (.istore 12) 2 185 := ⟨by decide +kernel, rfl⟩
theorem d_code_151 : Dec code 151 (.iload 11) 2 153 := ⟨by decide +kernel, rfl⟩
theorem d_code_153 : Dec code 153 (.iconst 3) 1 154 := ⟨by decide +kernel, rfl⟩
theorem d_code_154 : Dec code 154 (.if_icmp .le 14) 3 157 := ⟨by decide +kernel, rfl⟩
theorem d_code_157 : Dec code 157 (.iload 7) 2 159 := ⟨by decide +kernel, rfl⟩
theorem d_code_159 : Dec code 159 (.invokestatic 24) 3 162 := ⟨by decide +kernel, rfl⟩
theorem d_code_162 : Dec code 162 (.ifCond .ne 6) 3 165 := ⟨by decide +kernel, rfl⟩
theorem d_code_165 : Dec code 165 (.iconst 3) 1 166 := ⟨by decide +kernel, rfl⟩
theorem d_code_166 : Dec code 166 (.istore 12) 2 168 := ⟨by decide +kernel, rfl⟩
theorem d_code_133 : Dec code 133 (.iload_n 3) 1 134 := ⟨by decide +kernel, rfl⟩
theorem d_code_134 : Dec code 134 (.ifCond .le 13) 3 137 := ⟨by decide +kernel, rfl⟩
theorem d_code_137 : Dec code 137 (.iload 4) 2 139 := ⟨by decide +kernel, rfl⟩
theorem d_code_139 : Dec code 139 (.bipush 59) 2 141 := ⟨by decide +kernel, rfl⟩
theorem d_code_141 : Dec code 141 (.if_icmp .ne 6) 3 144 := ⟨by decide +kernel, rfl⟩
theorem d_code_144 : Dec code 144 (.iconst 0) 1 145 := ⟨by decide +kernel, rfl⟩
theorem d_code_145 : Dec code 145 (.istore 11) 2 147 := ⟨by decide +kernel, rfl⟩
theorem d_code_118 : Dec code 118 (.iload_n 3) 1 119 := ⟨by decide +kernel, rfl⟩
theorem d_code_119 : Dec code 119 (.iconst 1) 1 120 := ⟨by decide +kernel, rfl⟩
theorem d_code_120 : Dec code 120 (.if_icmp .le 13) 3 123 := ⟨by decide +kernel, rfl⟩
theorem d_code_123 : Dec code 123 (.iload 5) 2 125 := ⟨by decide +kernel, rfl⟩
theorem d_code_125 : Dec code 125 (.bipush 59) 2 127 := ⟨by decide +kernel, rfl⟩
theorem d_code_127 : Dec code 127 (.if_icmp .ne 6) 3 130 := ⟨by decide +kernel, rfl⟩
theorem d_code_130 : Dec code 130 (.iconst 1) 1 131 := ⟨by decide +kernel, rfl⟩
theorem d_code_131 : Dec code 131 (.istore 11) 2 133 := ⟨by decide +kernel, rfl⟩
theorem d_code_103 : Dec code 103 (.iload_n 3) 1 104 := ⟨by decide +kernel, rfl⟩
theorem d_code_104 : Dec code 104 (.iconst 2) 1 105 := ⟨by decide +kernel, rfl⟩
theorem d_code_105 : Dec code 105 (.if_icmp .le 13) 3 108 := ⟨by decide +kernel, rfl⟩
theorem d_code_108 : Dec code 108 (.iload 6) 2 110 := ⟨by decide +kernel, rfl⟩
theorem d_code_110 : Dec code 110 (.bipush 59) 2 112 := ⟨by decide +kernel, rfl⟩
theorem d_code_112 : Dec code 112 (.if_icmp .ne 6) 3 115 := ⟨by decide +kernel, rfl⟩
theorem d_code_115 : Dec code 115 (.iconst 2) 1 116 := ⟨by decide +kernel, rfl⟩
theorem d_code_116 : Dec code 116 (.istore 11) 2 118 := ⟨by decide +kernel, rfl⟩
theorem d_code_88 : Dec code 88 (.iload_n 3) 1 89 := ⟨by decide +kernel, rfl⟩
theorem d_code_89 : Dec code 89 (.iconst 3) 1 90 := ⟨by decide +kernel, rfl⟩
theorem d_code_90 : Dec code 90 (.if_icmp .le 13) 3 93 := ⟨by decide +kernel, rfl⟩
theorem d_code_93 : Dec code 93 (.iload 7) 2 95 := ⟨by decide +kernel, rfl⟩
theorem d_code_95 : Dec code 95 (.bipush 59) 2 97 := ⟨by decide +kernel, rfl⟩
theorem d_code_97 : Dec code 97 (.if_icmp .ne 6) 3 100 := ⟨by decide +kernel, rfl⟩
theorem d_code_100 : Dec code 100 (.iconst 3) 1 101 := ⟨by decide +kernel, rfl⟩
theorem d_code_101 : Dec code 101 (.istore 11) 2 103 := ⟨by decide +kernel, rfl⟩
set_option maxRecDepth 65536 in
set_option maxHeartbeats 40000000 in
theorem c_law (l : Launch) (Z : State) (a0 : Array Value) (hw : ∀ d ∈ tables_1, d.before a0 Z = true) (hE : EW Z a0 EL0) {n0 : Nat} {h0 : Heap} (hO : Old Z n0 h0) (hG : Gl Z) (hL : Lat Z) {loc lg : Addr} (HLo : Loc0 Z loc lg) (i0 i1 i2 : Int32) :
    Ctr NW EL0 n0 Z [] l x code maxLocals ret room_1 #[.int i0, .int i1, .int i2] h0 (RV fun w h => w = .int 1) := by
  refine Ctr.body (plainFor_of_name pn_8) hE hO (fun x q => nomatch q) (L0 := #[.val (.int i0), .val (.int i1), .val (.int i2), .unset, .unset, .unset, .unset, .unset, .unset, .unset, .unset, .unset, .unset, .unset, .unset, .unset, .unset, .unset, .unset, .unset]) (fun m => by first | (simp [entryFrame, mkF, argsToLocals, Value.category, maxLocals]; done) | rfl) ?_
  intro p e s m below meth c T0 W0
  refine Go.iload_n W0.cx d_code_0 (v := i0) rfl ?_
  refine Go.ldcI W0 d_code_1 (wd hw 0 rfl) ?_
  refine Go.iand W0.cx d_code_3 ?_
  refine Go.iconst W0.cx d_code_4 (z := (5 : Int32)) rfl ?_
  refine Go.irem W0.cx d_code_5 (by decide) ?_
  obtain ⟨n, hn, en⟩ := mask_rem i0 (q := 5) (y := (5 : Int32)) rfl (by decide) (by decide)
  refine Go.top en ?_
  refine Go.istore_n W0.cx d_code_6 (L' := #[.val (.int i0), .val (.int i1), .val (.int i2), .val (.int (Int32.ofNat n)), .unset, .unset, .unset, .unset, .unset, .unset, .unset, .unset, .unset, .unset, .unset, .unset, .unset, .unset, .unset, .unset]) rfl ?_
  refine Go.iload_n W0.cx d_code_7 (v := i1) rfl ?_
  refine Go.iload_n W0.cx d_code_8 (v := i2) rfl ?_
  refine Go.iconst W0.cx d_code_9 (z := (0 : Int32)) rfl ?_
  refine Go.invs1 W0 (Ctr.call (wt := 0) (c_pick l Z a0 hw hE W0.old i1 i2 0) W0.ew (wd hw 4 rfl) (wd hw 3 rfl) (by simp) (by decide) (by decide)) d_code_10 (wd hw 1 rfl) (wd hw 2 rfl) (wd hw 3 rfl) (wd hw 4 rfl) (by decide) pd_20 rfl rfl (rest := []) rfl (Nat.le_of_eq rfl) (cells' := 0) (slots' := 0) rfl rfl (by decide) (by decide) ?_
  rintro T1 h1 _ W1 z1 ⟨y1, rfl, rg1, e1⟩
  subst e1
  refine Go.istore W1.cx d_code_13 (L' := #[.val (.int i0), .val (.int i1), .val (.int i2), .val (.int (Int32.ofNat n)), .val (.int y1), .unset, .unset, .unset, .unset, .unset, .unset, .unset, .unset, .unset, .unset, .unset, .unset, .unset, .unset, .unset]) rfl ?_
  refine Go.iload_n W1.cx d_code_15 (v := i1) rfl ?_
  refine Go.iload_n W1.cx d_code_16 (v := i2) rfl ?_
  refine Go.iconst W1.cx d_code_17 (z := (1 : Int32)) rfl ?_
  refine Go.invs1 W1 (Ctr.call (wt := 0) (c_pick l Z a0 hw hE W1.old i1 i2 1) W1.ew (wd hw 4 rfl) (wd hw 3 rfl) (by simp) (by decide) (by decide)) d_code_18 (wd hw 1 rfl) (wd hw 2 rfl) (wd hw 3 rfl) (wd hw 4 rfl) (by decide) pd_20 rfl rfl (rest := []) rfl (Nat.le_of_eq rfl) (cells' := 0) (slots' := 0) rfl rfl (by decide) (by decide) ?_
  rintro T2 h2 _ W2 z2 ⟨y2, rfl, rg2, e2⟩
  subst e2
  refine Go.istore W2.cx d_code_21 (L' := #[.val (.int i0), .val (.int i1), .val (.int i2), .val (.int (Int32.ofNat n)), .val (.int y1), .val (.int y2), .unset, .unset, .unset, .unset, .unset, .unset, .unset, .unset, .unset, .unset, .unset, .unset, .unset, .unset]) rfl ?_
  refine Go.iload_n W2.cx d_code_23 (v := i1) rfl ?_
  refine Go.iload_n W2.cx d_code_24 (v := i2) rfl ?_
  refine Go.iconst W2.cx d_code_25 (z := (2 : Int32)) rfl ?_
  refine Go.invs1 W2 (Ctr.call (wt := 0) (c_pick l Z a0 hw hE W2.old i1 i2 2) W2.ew (wd hw 4 rfl) (wd hw 3 rfl) (by simp) (by decide) (by decide)) d_code_26 (wd hw 1 rfl) (wd hw 2 rfl) (wd hw 3 rfl) (wd hw 4 rfl) (by decide) pd_20 rfl rfl (rest := []) rfl (Nat.le_of_eq rfl) (cells' := 0) (slots' := 0) rfl rfl (by decide) (by decide) ?_
  rintro T3 h3 _ W3 z3 ⟨y3, rfl, rg3, e3⟩
  subst e3
  refine Go.istore W3.cx d_code_29 (L' := #[.val (.int i0), .val (.int i1), .val (.int i2), .val (.int (Int32.ofNat n)), .val (.int y1), .val (.int y2), .val (.int y3), .unset, .unset, .unset, .unset, .unset, .unset, .unset, .unset, .unset, .unset, .unset, .unset, .unset]) rfl ?_
  refine Go.iload_n W3.cx d_code_31 (v := i1) rfl ?_
  refine Go.iload_n W3.cx d_code_32 (v := i2) rfl ?_
  refine Go.iconst W3.cx d_code_33 (z := (3 : Int32)) rfl ?_
  refine Go.invs1 W3 (Ctr.call (wt := 0) (c_pick l Z a0 hw hE W3.old i1 i2 3) W3.ew (wd hw 4 rfl) (wd hw 3 rfl) (by simp) (by decide) (by decide)) d_code_34 (wd hw 1 rfl) (wd hw 2 rfl) (wd hw 3 rfl) (wd hw 4 rfl) (by decide) pd_20 rfl rfl (rest := []) rfl (Nat.le_of_eq rfl) (cells' := 0) (slots' := 0) rfl rfl (by decide) (by decide) ?_
  rintro T4 h4 _ W4 z4 ⟨y4, rfl, rg4, e4⟩
  subst e4
  refine Go.istore W4.cx d_code_37 (L' := #[.val (.int i0), .val (.int i1), .val (.int i2), .val (.int (Int32.ofNat n)), .val (.int y1), .val (.int y2), .val (.int y3), .val (.int y4), .unset, .unset, .unset, .unset, .unset, .unset, .unset, .unset, .unset, .unset, .unset, .unset]) rfl ?_
  refine Go.iload_n W4.cx d_code_39 (v := (Int32.ofNat n)) rfl ?_
  refine Go.iload W4.cx d_code_40 (v := y1) rfl ?_
  refine Go.iload W4.cx d_code_42 (v := y2) rfl ?_
  refine Go.iload W4.cx d_code_44 (v := y3) rfl ?_
  refine Go.iload W4.cx d_code_46 (v := y4) rfl ?_
  refine Go.invs1 W4 (Ctr.call (wt := 0) (c_make l Z a0 hw hE W4.old hG rg1 rg2 rg3 rg4 hn) W4.ew (wd hw 7 rfl) (wd hw 3 rfl) (by simp) (by decide) (by decide)) d_code_48 (wd hw 5 rfl) (wd hw 6 rfl) (wd hw 3 rfl) (wd hw 7 rfl) (by decide) pd_21 rfl rfl (rest := []) rfl (Nat.le_of_eq rfl) (cells' := 3) (slots' := 12) rfl rfl (by decide) (by decide) ?_
  rintro T5 h5 _ W5 z5 ⟨r5, rfl, E5, S5⟩
  refine Go.astore W5.cx d_code_51 (L' := #[.val (.int i0), .val (.int i1), .val (.int i2), .val (.int (Int32.ofNat n)), .val (.int y1), .val (.int y2), .val (.int y3), .val (.int y4), .val (.ref r5), .unset, .unset, .unset, .unset, .unset, .unset, .unset, .unset, .unset, .unset, .unset]) rfl rfl ?_
  refine Go.aload W5.cx d_code_53 (v := (.ref r5)) rfl rfl ?_
  refine Go.invs1 W5 (Ctr.call (wt := 0) (c_of l Z a0 hw hE W5.old hG hL HLo S5 (by rw [List.length_take]; exact Nat.le_trans (Nat.min_le_right _ _) (Nat.le_of_ble_eq_true rfl))) W5.ew (wd hw 19 rfl) (wd hw 18 rfl) (by simp) (by decide) (by decide)) d_code_55 (wd hw 16 rfl) (wd hw 17 rfl) (wd hw 18 rfl) (wd hw 19 rfl) (by decide) pd_22 rfl rfl (rest := []) rfl (Nat.le_of_eq rfl) (cells' := 15) (slots' := 84) rfl rfl (by decide) (by decide) ?_
  rintro T6 h6 _ W6 z6 ⟨kq, i, j, r6, rfl, OQ, E6, S6⟩
  refine Go.astore W6.cx d_code_58 (L' := #[.val (.int i0), .val (.int i1), .val (.int i2), .val (.int (Int32.ofNat n)), .val (.int y1), .val (.int y2), .val (.int y3), .val (.int y4), .val (.ref r5), .val (.ref r6), .unset, .unset, .unset, .unset, .unset, .unset, .unset, .unset, .unset, .unset]) rfl rfl ?_
  refine Go.iconst W6.cx d_code_60 (z := (4 : Int32)) rfl ?_
  refine Go.newarr W6 d_code_61 (wd hw 84 rfl) (z := (4 : Int32)) (cap := 4) (by decide) (by decide) (by decide) (cells' := 16) (slots' := 88) rfl rfl (by decide) (by decide) ?_
  intro T7 h7 a7 ka7 g7 W7 E7 A7
  have V7 : CArr Z h7 a7 ka7 [0, 0, 0, 0] := CArr.of_new A7 (k := 4) rfl rfl
  refine Go.dup W7.cx d_code_63 rfl ?_
  refine Go.iconst W7.cx d_code_64 (z := (0 : Int32)) rfl ?_
  refine Go.iload W7.cx d_code_65 (v := y1) rfl ?_
  refine Go.castore W7 0 d_code_67 V7 (by simp) rfl (Nat.le_of_ble_eq_true rfl) (Nat.le_of_ble_eq_true rfl) (x' := y1) (nar_ch rg1) ?_
  intro T8 h8 W8 K8 V8
  have V8 : CArr Z h8 a7 ka7 [y1, 0, 0, 0] := V8
  have X8 : Ext h6 h8 := ext_keep E7 K8 (all1 (Nat.le_of_eq g7.symm))
  refine Go.dup W8.cx d_code_68 rfl ?_
  refine Go.iconst W8.cx d_code_69 (z := (1 : Int32)) rfl ?_
  refine Go.iload W8.cx d_code_70 (v := y2) rfl ?_
  refine Go.castore W8 1 d_code_72 V8 (by simp) rfl (Nat.le_of_ble_eq_true rfl) (Nat.le_of_ble_eq_true rfl) (x' := y2) (nar_ch rg2) ?_
  intro T9 h9 W9 K9 V9
  have V9 : CArr Z h9 a7 ka7 [y1, y2, 0, 0] := V9
  have X9 : Ext h6 h9 := ext_keep X8 K9 (all1 (Nat.le_of_eq g7.symm))
  refine Go.dup W9.cx d_code_73 rfl ?_
  refine Go.iconst W9.cx d_code_74 (z := (2 : Int32)) rfl ?_
  refine Go.iload W9.cx d_code_75 (v := y3) rfl ?_
  refine Go.castore W9 2 d_code_77 V9 (by simp) rfl (Nat.le_of_ble_eq_true rfl) (Nat.le_of_ble_eq_true rfl) (x' := y3) (nar_ch rg3) ?_
  intro T10 h10 W10 K10 V10
  have V10 : CArr Z h10 a7 ka7 [y1, y2, y3, 0] := V10
  have X10 : Ext h6 h10 := ext_keep X9 K10 (all1 (Nat.le_of_eq g7.symm))
  refine Go.dup W10.cx d_code_78 rfl ?_
  refine Go.iconst W10.cx d_code_79 (z := (3 : Int32)) rfl ?_
  refine Go.iload W10.cx d_code_80 (v := y4) rfl ?_
  refine Go.castore W10 3 d_code_82 V10 (by simp) rfl (Nat.le_of_ble_eq_true rfl) (Nat.le_of_ble_eq_true rfl) (x' := y4) (nar_ch rg4) ?_
  intro T11 h11 W11 K11 V11
  have V11 : CArr Z h11 a7 ka7 [y1, y2, y3, y4] := V11
  have X11 : Ext h6 h11 := ext_keep X10 K11 (all1 (Nat.le_of_eq g7.symm))
  refine Go.astore W11.cx d_code_83 (L' := #[.val (.int i0), .val (.int i1), .val (.int i2), .val (.int (Int32.ofNat n)), .val (.int y1), .val (.int y2), .val (.int y3), .val (.int y4), .val (.ref r5), .val (.ref r6), .val (.ref a7), .unset, .unset, .unset, .unset, .unset, .unset, .unset, .unset, .unset]) rfl rfl ?_
  refine Go.iload_n W11.cx d_code_85 (v := (Int32.ofNat n)) rfl ?_
  refine Go.istore W11.cx d_code_86 (L' := #[.val (.int i0), .val (.int i1), .val (.int i2), .val (.int (Int32.ofNat n)), .val (.int y1), .val (.int y2), .val (.int y3), .val (.int y4), .val (.ref r5), .val (.ref r6), .val (.ref a7), .val (.int (Int32.ofNat n)), .unset, .unset, .unset, .unset, .unset, .unset, .unset, .unset]) rfl ?_
  have SG := S6.ext X11
  have hPl : (List.take n [y1, y2, y3, y4]).length = n := by rw [List.length_take]; exact Nat.min_eq_left (Nat.le_of_lt_succ hn)
  rw [hPl] at OQ
  obtain ⟨o1, o2, o3, o4, o5, o6⟩ := id OQ
  have hij : i ≤ j ∧ j ≤ kq := by omega
  have gt : ∀ t, t < n → (List.take n [y1, y2, y3, y4]).getD t 0 = [y1, y2, y3, y4].getD t 0 := fun t ht => getD_tk ht
  have J103 : ∀ (k3 : Nat), ((3 < n ∧ y4 = 59 ∧ k3 = 3) ∨ (¬ (3 < n ∧ y4 = 59) ∧ k3 = n)) → ∀ (T : State), Wk NW EL0 n0 Z a0 "com/example/tributary/tributary/MediaTypesOfPinLaw" "law" code maxLocals ret p l e room_1 s m #[.int i0, .int i1, .int i2] below meth c T h11 [a7] 16 88 → Go p e below (Endp NW EL0 n0 Z below s room_1.cells room_1.slots (RV fun w h => w = .int 1)) T (mkF m 103 #[.val (.int i0), .val (.int i1), .val (.int i2), .val (.int (Int32.ofNat n)), .val (.int y1), .val (.int y2), .val (.int y3), .val (.int y4), .val (.ref r5), .val (.ref r6), .val (.ref a7), .val (.int (Int32.ofNat k3)), .unset, .unset, .unset, .unset, .unset, .unset, .unset, .unset] []) := by
    intro k3 qk3 T2030 W2030
    have J118 : ∀ (k2 : Nat), ((2 < n ∧ y3 = 59 ∧ k2 = 2) ∨ (¬ (2 < n ∧ y3 = 59) ∧ k2 = k3)) → ∀ (T : State), Wk NW EL0 n0 Z a0 "com/example/tributary/tributary/MediaTypesOfPinLaw" "law" code maxLocals ret p l e room_1 s m #[.int i0, .int i1, .int i2] below meth c T h11 [a7] 16 88 → Go p e below (Endp NW EL0 n0 Z below s room_1.cells room_1.slots (RV fun w h => w = .int 1)) T (mkF m 118 #[.val (.int i0), .val (.int i1), .val (.int i2), .val (.int (Int32.ofNat n)), .val (.int y1), .val (.int y2), .val (.int y3), .val (.int y4), .val (.ref r5), .val (.ref r6), .val (.ref a7), .val (.int (Int32.ofNat k2)), .unset, .unset, .unset, .unset, .unset, .unset, .unset, .unset] []) := by
      intro k2 qk2 T2180 W2180
      have J133 : ∀ (k1 : Nat), ((1 < n ∧ y2 = 59 ∧ k1 = 1) ∨ (¬ (1 < n ∧ y2 = 59) ∧ k1 = k2)) → ∀ (T : State), Wk NW EL0 n0 Z a0 "com/example/tributary/tributary/MediaTypesOfPinLaw" "law" code maxLocals ret p l e room_1 s m #[.int i0, .int i1, .int i2] below meth c T h11 [a7] 16 88 → Go p e below (Endp NW EL0 n0 Z below s room_1.cells room_1.slots (RV fun w h => w = .int 1)) T (mkF m 133 #[.val (.int i0), .val (.int i1), .val (.int i2), .val (.int (Int32.ofNat n)), .val (.int y1), .val (.int y2), .val (.int y3), .val (.int y4), .val (.ref r5), .val (.ref r6), .val (.ref a7), .val (.int (Int32.ofNat k1)), .unset, .unset, .unset, .unset, .unset, .unset, .unset, .unset] []) := by
        intro k1 qk1 T2330 W2330
        have J147 : ∀ (k0 : Nat), ((0 < n ∧ y1 = 59 ∧ k0 = 0) ∨ (¬ (0 < n ∧ y1 = 59) ∧ k0 = k1)) → ∀ (T : State), Wk NW EL0 n0 Z a0 "com/example/tributary/tributary/MediaTypesOfPinLaw" "law" code maxLocals ret p l e room_1 s m #[.int i0, .int i1, .int i2] below meth c T h11 [a7] 16 88 → Go p e below (Endp NW EL0 n0 Z below s room_1.cells room_1.slots (RV fun w h => w = .int 1)) T (mkF m 147 #[.val (.int i0), .val (.int i1), .val (.int i2), .val (.int (Int32.ofNat n)), .val (.int y1), .val (.int y2), .val (.int y3), .val (.int y4), .val (.ref r5), .val (.ref r6), .val (.ref a7), .val (.int (Int32.ofNat k0)), .unset, .unset, .unset, .unset, .unset, .unset, .unset, .unset] []) := by
          intro k0 qk0 T2470 W2470
          have ek : k0 = kq := kU (P := fun t => [y1, y2, y3, y4].getD t 0 = 59) (by omega) o1 (fun t ht => by rw [← gt t (by omega)]; exact o2 t ht) (fun z => by rw [← gt kq z]; exact o3 z) qk3 qk2 qk1 qk0
          have ek4 : k0 ≤ 4 := by omega
          refine Go.iload W2470.cx d_code_147 (v := (Int32.ofNat k0)) rfl ?_
          refine Go.istore W2470.cx d_code_149 (L' := #[.val (.int i0), .val (.int i1), .val (.int i2), .val (.int (Int32.ofNat n)), .val (.int y1), .val (.int y2), .val (.int y3), .val (.int y4), .val (.ref r5), .val (.ref r6), .val (.ref a7), .val (.int (Int32.ofNat k0)), .val (.int (Int32.ofNat k0)), .unset, .unset, .unset, .unset, .unset, .unset, .unset]) rfl ?_
          have J168 : ∀ (s3 : Nat), ((3 < k0 ∧ ¬ wsP y4 ∧ s3 = 3) ∨ (¬ (3 < k0 ∧ ¬ wsP y4) ∧ s3 = k0)) → ∀ (T : State), Wk NW EL0 n0 Z a0 "com/example/tributary/tributary/MediaTypesOfPinLaw" "law" code maxLocals ret p l e room_1 s m #[.int i0, .int i1, .int i2] below meth c T h11 [a7] 16 88 → Go p e below (Endp NW EL0 n0 Z below s room_1.cells room_1.slots (RV fun w h => w = .int 1)) T (mkF m 168 #[.val (.int i0), .val (.int i1), .val (.int i2), .val (.int (Int32.ofNat n)), .val (.int y1), .val (.int y2), .val (.int y3), .val (.int y4), .val (.ref r5), .val (.ref r6), .val (.ref a7), .val (.int (Int32.ofNat k0)), .val (.int (Int32.ofNat s3)), .unset, .unset, .unset, .unset, .unset, .unset, .unset] []) := by
            intro s3 qs3 T2680 W2680
            have J185 : ∀ (s2 : Nat), ((2 < k0 ∧ ¬ wsP y3 ∧ s2 = 2) ∨ (¬ (2 < k0 ∧ ¬ wsP y3) ∧ s2 = s3)) → ∀ (T : State), Wk NW EL0 n0 Z a0 "com/example/tributary/tributary/MediaTypesOfPinLaw" "law" code maxLocals ret p l e room_1 s m #[.int i0, .int i1, .int i2] below meth c T h11 [a7] 16 88 → Go p e below (Endp NW EL0 n0 Z below s room_1.cells room_1.slots (RV fun w h => w = .int 1)) T (mkF m 185 #[.val (.int i0), .val (.int i1), .val (.int i2), .val (.int (Int32.ofNat n)), .val (.int y1), .val (.int y2), .val (.int y3), .val (.int y4), .val (.ref r5), .val (.ref r6), .val (.ref a7), .val (.int (Int32.ofNat k0)), .val (.int (Int32.ofNat s2)), .unset, .unset, .unset, .unset, .unset, .unset, .unset] []) := by
              intro s2 qs2 T2850 W2850
              have J202 : ∀ (s1 : Nat), ((1 < k0 ∧ ¬ wsP y2 ∧ s1 = 1) ∨ (¬ (1 < k0 ∧ ¬ wsP y2) ∧ s1 = s2)) → ∀ (T : State), Wk NW EL0 n0 Z a0 "com/example/tributary/tributary/MediaTypesOfPinLaw" "law" code maxLocals ret p l e room_1 s m #[.int i0, .int i1, .int i2] below meth c T h11 [a7] 16 88 → Go p e below (Endp NW EL0 n0 Z below s room_1.cells room_1.slots (RV fun w h => w = .int 1)) T (mkF m 202 #[.val (.int i0), .val (.int i1), .val (.int i2), .val (.int (Int32.ofNat n)), .val (.int y1), .val (.int y2), .val (.int y3), .val (.int y4), .val (.ref r5), .val (.ref r6), .val (.ref a7), .val (.int (Int32.ofNat k0)), .val (.int (Int32.ofNat s1)), .unset, .unset, .unset, .unset, .unset, .unset, .unset] []) := by
                intro s1 qs1 T3020 W3020
                have J218 : ∀ (s0 : Nat), ((0 < k0 ∧ ¬ wsP y1 ∧ s0 = 0) ∨ (¬ (0 < k0 ∧ ¬ wsP y1) ∧ s0 = s1)) → ∀ (T : State), Wk NW EL0 n0 Z a0 "com/example/tributary/tributary/MediaTypesOfPinLaw" "law" code maxLocals ret p l e room_1 s m #[.int i0, .int i1, .int i2] below meth c T h11 [a7] 16 88 → Go p e below (Endp NW EL0 n0 Z below s room_1.cells room_1.slots (RV fun w h => w = .int 1)) T (mkF m 218 #[.val (.int i0), .val (.int i1), .val (.int i2), .val (.int (Int32.ofNat n)), .val (.int y1), .val (.int y2), .val (.int y3), .val (.int y4), .val (.ref r5), .val (.ref r6), .val (.ref a7), .val (.int (Int32.ofNat k0)), .val (.int (Int32.ofNat s0)), .unset, .unset, .unset, .unset, .unset, .unset, .unset] []) := by
                  intro s0 qs0 T3180 W3180
                  have es : s0 = i := kU (n := k0) (P := fun t => ¬ wsP ([y1, y2, y3, y4].getD t 0)) (by omega) (by omega) (fun t ht z => z (by rw [← gt t (by omega)]; exact o4 t ht)) (fun z => by rcases o6 with ⟨u, -⟩ | ⟨u1, u2, u3, -⟩; omega; rw [← gt i (by omega)]; exact u3) qs3 qs2 qs1 qs0
                  refine Go.iload W3180.cx d_code_218 (v := (Int32.ofNat s0)) rfl ?_
                  refine Go.istore W3180.cx d_code_220 (L' := #[.val (.int i0), .val (.int i1), .val (.int i2), .val (.int (Int32.ofNat n)), .val (.int y1), .val (.int y2), .val (.int y3), .val (.int y4), .val (.ref r5), .val (.ref r6), .val (.ref a7), .val (.int (Int32.ofNat k0)), .val (.int (Int32.ofNat s0)), .val (.int (Int32.ofNat s0)), .unset, .unset, .unset, .unset, .unset, .unset]) rfl ?_
                  have J238 : ∀ (e0 : Nat), ((0 < k0 ∧ ¬ wsP y1 ∧ e0 = 1) ∨ (¬ (0 < k0 ∧ ¬ wsP y1) ∧ e0 = s0)) → ∀ (T : State), Wk NW EL0 n0 Z a0 "com/example/tributary/tributary/MediaTypesOfPinLaw" "law" code maxLocals ret p l e room_1 s m #[.int i0, .int i1, .int i2] below meth c T h11 [a7] 16 88 → Go p e below (Endp NW EL0 n0 Z below s room_1.cells room_1.slots (RV fun w h => w = .int 1)) T (mkF m 238 #[.val (.int i0), .val (.int i1), .val (.int i2), .val (.int (Int32.ofNat n)), .val (.int y1), .val (.int y2), .val (.int y3), .val (.int y4), .val (.ref r5), .val (.ref r6), .val (.ref a7), .val (.int (Int32.ofNat k0)), .val (.int (Int32.ofNat s0)), .val (.int (Int32.ofNat e0)), .unset, .unset, .unset, .unset, .unset, .unset] []) := by
                    intro e0 qe0 T3380 W3380
                    have J255 : ∀ (e1 : Nat), ((1 < k0 ∧ ¬ wsP y2 ∧ e1 = 2) ∨ (¬ (1 < k0 ∧ ¬ wsP y2) ∧ e1 = e0)) → ∀ (T : State), Wk NW EL0 n0 Z a0 "com/example/tributary/tributary/MediaTypesOfPinLaw" "law" code maxLocals ret p l e room_1 s m #[.int i0, .int i1, .int i2] below meth c T h11 [a7] 16 88 → Go p e below (Endp NW EL0 n0 Z below s room_1.cells room_1.slots (RV fun w h => w = .int 1)) T (mkF m 255 #[.val (.int i0), .val (.int i1), .val (.int i2), .val (.int (Int32.ofNat n)), .val (.int y1), .val (.int y2), .val (.int y3), .val (.int y4), .val (.ref r5), .val (.ref r6), .val (.ref a7), .val (.int (Int32.ofNat k0)), .val (.int (Int32.ofNat s0)), .val (.int (Int32.ofNat e1)), .unset, .unset, .unset, .unset, .unset, .unset] []) := by
                      intro e1 qe1 T3550 W3550
                      have J272 : ∀ (e2 : Nat), ((2 < k0 ∧ ¬ wsP y3 ∧ e2 = 3) ∨ (¬ (2 < k0 ∧ ¬ wsP y3) ∧ e2 = e1)) → ∀ (T : State), Wk NW EL0 n0 Z a0 "com/example/tributary/tributary/MediaTypesOfPinLaw" "law" code maxLocals ret p l e room_1 s m #[.int i0, .int i1, .int i2] below meth c T h11 [a7] 16 88 → Go p e below (Endp NW EL0 n0 Z below s room_1.cells room_1.slots (RV fun w h => w = .int 1)) T (mkF m 272 #[.val (.int i0), .val (.int i1), .val (.int i2), .val (.int (Int32.ofNat n)), .val (.int y1), .val (.int y2), .val (.int y3), .val (.int y4), .val (.ref r5), .val (.ref r6), .val (.ref a7), .val (.int (Int32.ofNat k0)), .val (.int (Int32.ofNat s0)), .val (.int (Int32.ofNat e2)), .unset, .unset, .unset, .unset, .unset, .unset] []) := by
                        intro e2 qe2 T3720 W3720
                        have J289 : ∀ (e3 : Nat), ((3 < k0 ∧ ¬ wsP y4 ∧ e3 = 4) ∨ (¬ (3 < k0 ∧ ¬ wsP y4) ∧ e3 = e2)) → ∀ (T : State), Wk NW EL0 n0 Z a0 "com/example/tributary/tributary/MediaTypesOfPinLaw" "law" code maxLocals ret p l e room_1 s m #[.int i0, .int i1, .int i2] below meth c T h11 [a7] 16 88 → Go p e below (Endp NW EL0 n0 Z below s room_1.cells room_1.slots (RV fun w h => w = .int 1)) T (mkF m 289 #[.val (.int i0), .val (.int i1), .val (.int i2), .val (.int (Int32.ofNat n)), .val (.int y1), .val (.int y2), .val (.int y3), .val (.int y4), .val (.ref r5), .val (.ref r6), .val (.ref a7), .val (.int (Int32.ofNat k0)), .val (.int (Int32.ofNat s0)), .val (.int (Int32.ofNat e3)), .unset, .unset, .unset, .unset, .unset, .unset] []) := by
                          intro e3 qe3 T3890 W3890
                          have ee : e3 = j := eU (k := k0) (Q := fun t => ¬ wsP ([y1, y2, y3, y4].getD t 0)) (by omega) es (fun t ht z => z (by rw [← gt t (by omega)]; exact o4 t ht)) (fun t h1 h2 z => z (by rw [← gt t (by omega)]; exact o5 t h1 (by omega))) (by rcases o6 with ⟨u, v⟩ | ⟨u1, u2, u3, u4⟩; exact Or.inl ⟨by omega, v⟩; rw [gt i (by omega)] at u3; rw [gt (j - 1) (by omega)] at u4; exact Or.inr ⟨u1, by omega, u3, u4⟩) qe0 qe1 qe2 qe3
                          rw [← es, ← ee, dt_range (by rw [hPl]; omega)] at SG
                          refine Go.iload W3890.cx d_code_289 (v := (Int32.ofNat e3)) rfl ?_
                          refine Go.iload W3890.cx d_code_291 (v := (Int32.ofNat s0)) rfl ?_
                          refine Go.isub W3890.cx d_code_293 ?_
                          refine Go.top (sub_nat (by omega) (by omega)) ?_
                          obtain ⟨ln, hln⟩ : ∃ z : Nat, z = e3 - s0 := ⟨_, rfl⟩
                          rw [← hln] at SG ⊢
                          have gD : ∀ t, t < ln → (List.take n [y1, y2, y3, y4]).getD (s0 + t) 0 = [y1, y2, y3, y4].getD (s0 + t) 0 := fun t ht => gt (s0 + t) (by omega)
                          have gR : ∀ t, t < ln → ¬ [y1, y2, y3, y4].getD (s0 + t) 0 < 0 ∧ ¬ (255 : Int32) < [y1, y2, y3, y4].getD (s0 + t) 0 := fun t ht => getD_ch (all_cons rg1 (all_cons rg2 (all_cons rg3 (all_cons rg4 (all_nil))))) (show s0 + t < 4 by omega)
                          rcases (show ln = 0 ∨ ln = 1 ∨ ln = 2 ∨ ln = 3 ∨ ln = 4 by omega) with rfl | rfl | rfl | rfl | rfl
                          · refine Go.istore W3890.cx d_code_294 (L' := #[.val (.int i0), .val (.int i1), .val (.int i2), .val (.int (Int32.ofNat n)), .val (.int y1), .val (.int y2), .val (.int y3), .val (.int y4), .val (.ref r5), .val (.ref r6), .val (.ref a7), .val (.int (Int32.ofNat k0)), .val (.int (Int32.ofNat s0)), .val (.int (Int32.ofNat e3)), .val (.int (Int32.ofNat 0)), .unset, .unset, .unset, .unset, .unset]) rfl ?_
                            refine Go.iload W3890.cx d_code_296 (v := (Int32.ofNat 0)) rfl ?_
                            refine Go.ifle W3890.cx d_code_298 (by decide) (q := 312) rfl (fun _ => ?_) (fun hh => (by first | exact absurd (by decide : ¬ (0 : Int32) < Int32.ofNat 0) hh | exact absurd hh (by decide : ¬ (0 : Int32) < Int32.ofNat 0)))
                            refine Go.bipush W3890.cx d_code_312 (z := (120 : Int32)) rfl ?_
                            refine Go.istore W3890.cx d_code_314 (L' := #[.val (.int i0), .val (.int i1), .val (.int i2), .val (.int (Int32.ofNat n)), .val (.int y1), .val (.int y2), .val (.int y3), .val (.int y4), .val (.ref r5), .val (.ref r6), .val (.ref a7), .val (.int (Int32.ofNat k0)), .val (.int (Int32.ofNat s0)), .val (.int (Int32.ofNat e3)), .val (.int (Int32.ofNat 0)), .val (.int (120 : Int32)), .unset, .unset, .unset, .unset]) rfl ?_
                            refine Go.iload W3890.cx d_code_316 (v := (Int32.ofNat 0)) rfl ?_
                            refine Go.iconst W3890.cx d_code_318 (z := (1 : Int32)) rfl ?_
                            refine Go.icle W3890.cx d_code_319 (by decide) (q := 335) rfl (fun _ => ?_) (fun hh => (by first | exact absurd (by decide : ¬ (1 : Int32) < Int32.ofNat 0) hh | exact absurd hh (by decide : ¬ (1 : Int32) < Int32.ofNat 0)))
                            refine Go.bipush W3890.cx d_code_335 (z := (120 : Int32)) rfl ?_
                            refine Go.istore W3890.cx d_code_337 (L' := #[.val (.int i0), .val (.int i1), .val (.int i2), .val (.int (Int32.ofNat n)), .val (.int y1), .val (.int y2), .val (.int y3), .val (.int y4), .val (.ref r5), .val (.ref r6), .val (.ref a7), .val (.int (Int32.ofNat k0)), .val (.int (Int32.ofNat s0)), .val (.int (Int32.ofNat e3)), .val (.int (Int32.ofNat 0)), .val (.int (120 : Int32)), .val (.int (120 : Int32)), .unset, .unset, .unset]) rfl ?_
                            refine Go.iload W3890.cx d_code_339 (v := (Int32.ofNat 0)) rfl ?_
                            refine Go.iconst W3890.cx d_code_341 (z := (2 : Int32)) rfl ?_
                            refine Go.icle W3890.cx d_code_342 (by decide) (q := 358) rfl (fun _ => ?_) (fun hh => (by first | exact absurd (by decide : ¬ (2 : Int32) < Int32.ofNat 0) hh | exact absurd hh (by decide : ¬ (2 : Int32) < Int32.ofNat 0)))
                            refine Go.bipush W3890.cx d_code_358 (z := (120 : Int32)) rfl ?_
                            refine Go.istore W3890.cx d_code_360 (L' := #[.val (.int i0), .val (.int i1), .val (.int i2), .val (.int (Int32.ofNat n)), .val (.int y1), .val (.int y2), .val (.int y3), .val (.int y4), .val (.ref r5), .val (.ref r6), .val (.ref a7), .val (.int (Int32.ofNat k0)), .val (.int (Int32.ofNat s0)), .val (.int (Int32.ofNat e3)), .val (.int (Int32.ofNat 0)), .val (.int (120 : Int32)), .val (.int (120 : Int32)), .val (.int (120 : Int32)), .unset, .unset]) rfl ?_
                            refine Go.iload W3890.cx d_code_362 (v := (Int32.ofNat 0)) rfl ?_
                            refine Go.iconst W3890.cx d_code_364 (z := (3 : Int32)) rfl ?_
                            refine Go.icle W3890.cx d_code_365 (by decide) (q := 381) rfl (fun _ => ?_) (fun hh => (by first | exact absurd (by decide : ¬ (3 : Int32) < Int32.ofNat 0) hh | exact absurd hh (by decide : ¬ (3 : Int32) < Int32.ofNat 0)))
                            refine Go.bipush W3890.cx d_code_381 (z := (120 : Int32)) rfl ?_
                            refine Go.istore W3890.cx d_code_383 (L' := #[.val (.int i0), .val (.int i1), .val (.int i2), .val (.int (Int32.ofNat n)), .val (.int y1), .val (.int y2), .val (.int y3), .val (.int y4), .val (.ref r5), .val (.ref r6), .val (.ref a7), .val (.int (Int32.ofNat k0)), .val (.int (Int32.ofNat s0)), .val (.int (Int32.ofNat e3)), .val (.int (Int32.ofNat 0)), .val (.int (120 : Int32)), .val (.int (120 : Int32)), .val (.int (120 : Int32)), .val (.int (120 : Int32)), .unset]) rfl ?_
                            refine Go.iload W3890.cx d_code_385 (v := (Int32.ofNat 0)) rfl ?_
                            refine Go.iload W3890.cx d_code_387 (v := (120 : Int32)) rfl ?_
                            refine Go.iload W3890.cx d_code_389 (v := (120 : Int32)) rfl ?_
                            refine Go.iload W3890.cx d_code_391 (v := (120 : Int32)) rfl ?_
                            refine Go.iload W3890.cx d_code_393 (v := (120 : Int32)) rfl ?_
                            refine Go.invs1 W3890 (Ctr.call (wt := 0) (c_make0 l Z a0 hw hE W3890.old hG (by decide) (by decide) (by decide) (by decide)) W3890.ew (wd hw 7 rfl) (wd hw 3 rfl) (by simp) (by decide) (by decide)) d_code_395 (wd hw 5 rfl) (wd hw 6 rfl) (wd hw 3 rfl) (wd hw 7 rfl) (by decide) pd_21 rfl rfl (rest := []) rfl (Nat.le_of_eq rfl) (cells' := 19) (slots' := 100) rfl rfl (by decide) (by decide) ?_
                            rintro T3891 h3891 _ W3891 z3891 ⟨r3891, rfl, E3891, S3891⟩
                            have SH := SG.ext E3891
                            rw [show ((List.range 0).map fun t => (List.take n [y1, y2, y3, y4]).getD (s0 + t) 0).map low = [] from by simp only [List.range_succ, List.range_zero, List.nil_append, List.cons_append, List.map_cons, List.map_nil]] at SH
                            have SI : Str Z h3891 r3891 [] := S3891
                            refine Go.astore W3891.cx d_code_398 (L' := #[.val (.int i0), .val (.int i1), .val (.int i2), .val (.int (Int32.ofNat n)), .val (.int y1), .val (.int y2), .val (.int y3), .val (.int y4), .val (.ref r5), .val (.ref r6), .val (.ref a7), .val (.int (Int32.ofNat k0)), .val (.int (Int32.ofNat s0)), .val (.int (Int32.ofNat e3)), .val (.int (Int32.ofNat 0)), .val (.int (120 : Int32)), .val (.int (120 : Int32)), .val (.int (120 : Int32)), .val (.int (120 : Int32)), .val (.ref r3891)]) rfl rfl ?_
                            refine Go.aload W3891.cx d_code_400 (v := (.ref r3891)) rfl rfl ?_
                            refine Go.aload W3891.cx d_code_402 (v := (.ref r6)) rfl rfl ?_
                            refine Go.invv1 W3891 (strEq (wt := 0) W3891.ew hw hG SI SH (by decide) (by decide)) d_code_404 (wd hw 85 rfl) (wd hw 86 rfl) (wd hw 88 rfl) (wd hw 87 rfl) (by decide) SI.exa pd_23 rfl rfl (rest := []) rfl (Nat.le_of_eq rfl) (cells' := 19) (slots' := 100) rfl rfl (by decide) (by decide) ?_
                            rintro T3892 h3892 _ W3892 z3892 ⟨rfl, e3892⟩
                            rw [if_pos rfl]
                            exact Go.iret W3892 d_code_407 (by simp) rfl (by decide) (by decide) ⟨_, rfl, rfl⟩
                          · refine Go.istore W3890.cx d_code_294 (L' := #[.val (.int i0), .val (.int i1), .val (.int i2), .val (.int (Int32.ofNat n)), .val (.int y1), .val (.int y2), .val (.int y3), .val (.int y4), .val (.ref r5), .val (.ref r6), .val (.ref a7), .val (.int (Int32.ofNat k0)), .val (.int (Int32.ofNat s0)), .val (.int (Int32.ofNat e3)), .val (.int (Int32.ofNat 1)), .unset, .unset, .unset, .unset, .unset]) rfl ?_
                            refine Go.iload W3890.cx d_code_296 (v := (Int32.ofNat 1)) rfl ?_
                            refine Go.ifle W3890.cx d_code_298 (by decide) (q := 312) rfl (fun hh => (by first | exact absurd (by decide : (0 : Int32) < Int32.ofNat 1) hh | exact absurd hh (by decide : (0 : Int32) < Int32.ofNat 1))) (fun _ => ?_)
                            refine Go.aload W3890.cx d_code_301 (v := (.ref a7)) rfl rfl ?_
                            refine Go.iload W3890.cx d_code_303 (v := (Int32.ofNat s0)) rfl ?_
                            refine Go.caload W3890 (s0 + 0) d_code_305 V11 rfl (show s0 + 0 < 4 by omega) (Nat.le_of_ble_eq_true rfl) (v := ([y1, y2, y3, y4].getD (s0 + 0) 0)) rfl ?_
                            refine Go.invs1 W3890 (Ctr.call (wt := 0) (c_lower l Z a0 hw hE W3890.old (gR 0 (by omega))) W3890.ew (wd hw 197 rfl) (wd hw 3 rfl) (by simp) (by decide) (by decide)) d_code_306 (wd hw 195 rfl) (wd hw 196 rfl) (wd hw 3 rfl) (wd hw 197 rfl) (by decide) pd_24 rfl rfl (rest := []) rfl (Nat.le_of_eq rfl) (cells' := 16) (slots' := 88) rfl rfl (by decide) (by decide) ?_
                            rintro T3893 h3893 _ W3893 z3893 ⟨rfl, e3893⟩
                            subst e3893
                            refine Go.goto W3893.cx d_code_309 (by decide) (q := 314) rfl ?_
                            refine Go.istore W3893.cx d_code_314 (L' := #[.val (.int i0), .val (.int i1), .val (.int i2), .val (.int (Int32.ofNat n)), .val (.int y1), .val (.int y2), .val (.int y3), .val (.int y4), .val (.ref r5), .val (.ref r6), .val (.ref a7), .val (.int (Int32.ofNat k0)), .val (.int (Int32.ofNat s0)), .val (.int (Int32.ofNat e3)), .val (.int (Int32.ofNat 1)), .val (.int (low ([y1, y2, y3, y4].getD (s0 + 0) 0))), .unset, .unset, .unset, .unset]) rfl ?_
                            refine Go.iload W3893.cx d_code_316 (v := (Int32.ofNat 1)) rfl ?_
                            refine Go.iconst W3893.cx d_code_318 (z := (1 : Int32)) rfl ?_
                            refine Go.icle W3893.cx d_code_319 (by decide) (q := 335) rfl (fun _ => ?_) (fun hh => (by first | exact absurd (by decide : ¬ (1 : Int32) < Int32.ofNat 1) hh | exact absurd hh (by decide : ¬ (1 : Int32) < Int32.ofNat 1)))
                            refine Go.bipush W3893.cx d_code_335 (z := (120 : Int32)) rfl ?_
                            refine Go.istore W3893.cx d_code_337 (L' := #[.val (.int i0), .val (.int i1), .val (.int i2), .val (.int (Int32.ofNat n)), .val (.int y1), .val (.int y2), .val (.int y3), .val (.int y4), .val (.ref r5), .val (.ref r6), .val (.ref a7), .val (.int (Int32.ofNat k0)), .val (.int (Int32.ofNat s0)), .val (.int (Int32.ofNat e3)), .val (.int (Int32.ofNat 1)), .val (.int (low ([y1, y2, y3, y4].getD (s0 + 0) 0))), .val (.int (120 : Int32)), .unset, .unset, .unset]) rfl ?_
                            refine Go.iload W3893.cx d_code_339 (v := (Int32.ofNat 1)) rfl ?_
                            refine Go.iconst W3893.cx d_code_341 (z := (2 : Int32)) rfl ?_
                            refine Go.icle W3893.cx d_code_342 (by decide) (q := 358) rfl (fun _ => ?_) (fun hh => (by first | exact absurd (by decide : ¬ (2 : Int32) < Int32.ofNat 1) hh | exact absurd hh (by decide : ¬ (2 : Int32) < Int32.ofNat 1)))
                            refine Go.bipush W3893.cx d_code_358 (z := (120 : Int32)) rfl ?_
                            refine Go.istore W3893.cx d_code_360 (L' := #[.val (.int i0), .val (.int i1), .val (.int i2), .val (.int (Int32.ofNat n)), .val (.int y1), .val (.int y2), .val (.int y3), .val (.int y4), .val (.ref r5), .val (.ref r6), .val (.ref a7), .val (.int (Int32.ofNat k0)), .val (.int (Int32.ofNat s0)), .val (.int (Int32.ofNat e3)), .val (.int (Int32.ofNat 1)), .val (.int (low ([y1, y2, y3, y4].getD (s0 + 0) 0))), .val (.int (120 : Int32)), .val (.int (120 : Int32)), .unset, .unset]) rfl ?_
                            refine Go.iload W3893.cx d_code_362 (v := (Int32.ofNat 1)) rfl ?_
                            refine Go.iconst W3893.cx d_code_364 (z := (3 : Int32)) rfl ?_
                            refine Go.icle W3893.cx d_code_365 (by decide) (q := 381) rfl (fun _ => ?_) (fun hh => (by first | exact absurd (by decide : ¬ (3 : Int32) < Int32.ofNat 1) hh | exact absurd hh (by decide : ¬ (3 : Int32) < Int32.ofNat 1)))
                            refine Go.bipush W3893.cx d_code_381 (z := (120 : Int32)) rfl ?_
                            refine Go.istore W3893.cx d_code_383 (L' := #[.val (.int i0), .val (.int i1), .val (.int i2), .val (.int (Int32.ofNat n)), .val (.int y1), .val (.int y2), .val (.int y3), .val (.int y4), .val (.ref r5), .val (.ref r6), .val (.ref a7), .val (.int (Int32.ofNat k0)), .val (.int (Int32.ofNat s0)), .val (.int (Int32.ofNat e3)), .val (.int (Int32.ofNat 1)), .val (.int (low ([y1, y2, y3, y4].getD (s0 + 0) 0))), .val (.int (120 : Int32)), .val (.int (120 : Int32)), .val (.int (120 : Int32)), .unset]) rfl ?_
                            refine Go.iload W3893.cx d_code_385 (v := (Int32.ofNat 1)) rfl ?_
                            refine Go.iload W3893.cx d_code_387 (v := (low ([y1, y2, y3, y4].getD (s0 + 0) 0))) rfl ?_
                            refine Go.iload W3893.cx d_code_389 (v := (120 : Int32)) rfl ?_
                            refine Go.iload W3893.cx d_code_391 (v := (120 : Int32)) rfl ?_
                            refine Go.iload W3893.cx d_code_393 (v := (120 : Int32)) rfl ?_
                            refine Go.invs1 W3893 (Ctr.call (wt := 0) (c_make1 l Z a0 hw hE W3893.old hG (low_rg (gR 0 (by omega))) (by decide) (by decide) (by decide)) W3893.ew (wd hw 7 rfl) (wd hw 3 rfl) (by simp) (by decide) (by decide)) d_code_395 (wd hw 5 rfl) (wd hw 6 rfl) (wd hw 3 rfl) (wd hw 7 rfl) (by decide) pd_21 rfl rfl (rest := []) rfl (Nat.le_of_eq rfl) (cells' := 19) (slots' := 100) rfl rfl (by decide) (by decide) ?_
                            rintro T3894 h3894 _ W3894 z3894 ⟨r3894, rfl, E3894, S3894⟩
                            have SH := SG.ext E3894
                            rw [show ((List.range 1).map fun t => (List.take n [y1, y2, y3, y4]).getD (s0 + t) 0).map low = [low ([y1, y2, y3, y4].getD (s0 + 0) 0)] from by simp only [List.range_succ, List.range_zero, List.nil_append, List.cons_append, List.map_cons, List.map_nil, gD 0 (by omega)]] at SH
                            have SI : Str Z h3894 r3894 [low ([y1, y2, y3, y4].getD (s0 + 0) 0)] := S3894
                            refine Go.astore W3894.cx d_code_398 (L' := #[.val (.int i0), .val (.int i1), .val (.int i2), .val (.int (Int32.ofNat n)), .val (.int y1), .val (.int y2), .val (.int y3), .val (.int y4), .val (.ref r5), .val (.ref r6), .val (.ref a7), .val (.int (Int32.ofNat k0)), .val (.int (Int32.ofNat s0)), .val (.int (Int32.ofNat e3)), .val (.int (Int32.ofNat 1)), .val (.int (low ([y1, y2, y3, y4].getD (s0 + 0) 0))), .val (.int (120 : Int32)), .val (.int (120 : Int32)), .val (.int (120 : Int32)), .val (.ref r3894)]) rfl rfl ?_
                            refine Go.aload W3894.cx d_code_400 (v := (.ref r3894)) rfl rfl ?_
                            refine Go.aload W3894.cx d_code_402 (v := (.ref r6)) rfl rfl ?_
                            refine Go.invv1 W3894 (strEq (wt := 0) W3894.ew hw hG SI SH (by decide) (by decide)) d_code_404 (wd hw 85 rfl) (wd hw 86 rfl) (wd hw 88 rfl) (wd hw 87 rfl) (by decide) SI.exa pd_23 rfl rfl (rest := []) rfl (Nat.le_of_eq rfl) (cells' := 19) (slots' := 100) rfl rfl (by decide) (by decide) ?_
                            rintro T3895 h3895 _ W3895 z3895 ⟨rfl, e3895⟩
                            rw [if_pos rfl]
                            exact Go.iret W3895 d_code_407 (by simp) rfl (by decide) (by decide) ⟨_, rfl, rfl⟩
                          · refine Go.istore W3890.cx d_code_294 (L' := #[.val (.int i0), .val (.int i1), .val (.int i2), .val (.int (Int32.ofNat n)), .val (.int y1), .val (.int y2), .val (.int y3), .val (.int y4), .val (.ref r5), .val (.ref r6), .val (.ref a7), .val (.int (Int32.ofNat k0)), .val (.int (Int32.ofNat s0)), .val (.int (Int32.ofNat e3)), .val (.int (Int32.ofNat 2)), .unset, .unset, .unset, .unset, .unset]) rfl ?_
                            refine Go.iload W3890.cx d_code_296 (v := (Int32.ofNat 2)) rfl ?_
                            refine Go.ifle W3890.cx d_code_298 (by decide) (q := 312) rfl (fun hh => (by first | exact absurd (by decide : (0 : Int32) < Int32.ofNat 2) hh | exact absurd hh (by decide : (0 : Int32) < Int32.ofNat 2))) (fun _ => ?_)
                            refine Go.aload W3890.cx d_code_301 (v := (.ref a7)) rfl rfl ?_
                            refine Go.iload W3890.cx d_code_303 (v := (Int32.ofNat s0)) rfl ?_
                            refine Go.caload W3890 (s0 + 0) d_code_305 V11 rfl (show s0 + 0 < 4 by omega) (Nat.le_of_ble_eq_true rfl) (v := ([y1, y2, y3, y4].getD (s0 + 0) 0)) rfl ?_
                            refine Go.invs1 W3890 (Ctr.call (wt := 0) (c_lower l Z a0 hw hE W3890.old (gR 0 (by omega))) W3890.ew (wd hw 197 rfl) (wd hw 3 rfl) (by simp) (by decide) (by decide)) d_code_306 (wd hw 195 rfl) (wd hw 196 rfl) (wd hw 3 rfl) (wd hw 197 rfl) (by decide) pd_24 rfl rfl (rest := []) rfl (Nat.le_of_eq rfl) (cells' := 16) (slots' := 88) rfl rfl (by decide) (by decide) ?_
                            rintro T3896 h3896 _ W3896 z3896 ⟨rfl, e3896⟩
                            subst e3896
                            refine Go.goto W3896.cx d_code_309 (by decide) (q := 314) rfl ?_
                            refine Go.istore W3896.cx d_code_314 (L' := #[.val (.int i0), .val (.int i1), .val (.int i2), .val (.int (Int32.ofNat n)), .val (.int y1), .val (.int y2), .val (.int y3), .val (.int y4), .val (.ref r5), .val (.ref r6), .val (.ref a7), .val (.int (Int32.ofNat k0)), .val (.int (Int32.ofNat s0)), .val (.int (Int32.ofNat e3)), .val (.int (Int32.ofNat 2)), .val (.int (low ([y1, y2, y3, y4].getD (s0 + 0) 0))), .unset, .unset, .unset, .unset]) rfl ?_
                            refine Go.iload W3896.cx d_code_316 (v := (Int32.ofNat 2)) rfl ?_
                            refine Go.iconst W3896.cx d_code_318 (z := (1 : Int32)) rfl ?_
                            refine Go.icle W3896.cx d_code_319 (by decide) (q := 335) rfl (fun hh => (by first | exact absurd (by decide : (1 : Int32) < Int32.ofNat 2) hh | exact absurd hh (by decide : (1 : Int32) < Int32.ofNat 2))) (fun _ => ?_)
                            refine Go.aload W3896.cx d_code_322 (v := (.ref a7)) rfl rfl ?_
                            refine Go.iload W3896.cx d_code_324 (v := (Int32.ofNat s0)) rfl ?_
                            refine Go.iconst W3896.cx d_code_326 (z := (1 : Int32)) rfl ?_
                            refine Go.iadd W3896.cx d_code_327 ?_
                            refine Go.caload W3896 (s0 + 1) d_code_328 V11 (show Int32.ofNat s0 + 1 = Int32.ofNat (s0 + 1) from add_nat s0 1) (show s0 + 1 < 4 by omega) (Nat.le_of_ble_eq_true rfl) (v := ([y1, y2, y3, y4].getD (s0 + 1) 0)) rfl ?_
                            refine Go.invs1 W3896 (Ctr.call (wt := 0) (c_lower l Z a0 hw hE W3896.old (gR 1 (by omega))) W3896.ew (wd hw 197 rfl) (wd hw 3 rfl) (by simp) (by decide) (by decide)) d_code_329 (wd hw 195 rfl) (wd hw 196 rfl) (wd hw 3 rfl) (wd hw 197 rfl) (by decide) pd_24 rfl rfl (rest := []) rfl (Nat.le_of_eq rfl) (cells' := 16) (slots' := 88) rfl rfl (by decide) (by decide) ?_
                            rintro T3897 h3897 _ W3897 z3897 ⟨rfl, e3897⟩
                            subst e3897
                            refine Go.goto W3897.cx d_code_332 (by decide) (q := 337) rfl ?_
                            refine Go.istore W3897.cx d_code_337 (L' := #[.val (.int i0), .val (.int i1), .val (.int i2), .val (.int (Int32.ofNat n)), .val (.int y1), .val (.int y2), .val (.int y3), .val (.int y4), .val (.ref r5), .val (.ref r6), .val (.ref a7), .val (.int (Int32.ofNat k0)), .val (.int (Int32.ofNat s0)), .val (.int (Int32.ofNat e3)), .val (.int (Int32.ofNat 2)), .val (.int (low ([y1, y2, y3, y4].getD (s0 + 0) 0))), .val (.int (low ([y1, y2, y3, y4].getD (s0 + 1) 0))), .unset, .unset, .unset]) rfl ?_
                            refine Go.iload W3897.cx d_code_339 (v := (Int32.ofNat 2)) rfl ?_
                            refine Go.iconst W3897.cx d_code_341 (z := (2 : Int32)) rfl ?_
                            refine Go.icle W3897.cx d_code_342 (by decide) (q := 358) rfl (fun _ => ?_) (fun hh => (by first | exact absurd (by decide : ¬ (2 : Int32) < Int32.ofNat 2) hh | exact absurd hh (by decide : ¬ (2 : Int32) < Int32.ofNat 2)))
                            refine Go.bipush W3897.cx d_code_358 (z := (120 : Int32)) rfl ?_
                            refine Go.istore W3897.cx d_code_360 (L' := #[.val (.int i0), .val (.int i1), .val (.int i2), .val (.int (Int32.ofNat n)), .val (.int y1), .val (.int y2), .val (.int y3), .val (.int y4), .val (.ref r5), .val (.ref r6), .val (.ref a7), .val (.int (Int32.ofNat k0)), .val (.int (Int32.ofNat s0)), .val (.int (Int32.ofNat e3)), .val (.int (Int32.ofNat 2)), .val (.int (low ([y1, y2, y3, y4].getD (s0 + 0) 0))), .val (.int (low ([y1, y2, y3, y4].getD (s0 + 1) 0))), .val (.int (120 : Int32)), .unset, .unset]) rfl ?_
                            refine Go.iload W3897.cx d_code_362 (v := (Int32.ofNat 2)) rfl ?_
                            refine Go.iconst W3897.cx d_code_364 (z := (3 : Int32)) rfl ?_
                            refine Go.icle W3897.cx d_code_365 (by decide) (q := 381) rfl (fun _ => ?_) (fun hh => (by first | exact absurd (by decide : ¬ (3 : Int32) < Int32.ofNat 2) hh | exact absurd hh (by decide : ¬ (3 : Int32) < Int32.ofNat 2)))
                            refine Go.bipush W3897.cx d_code_381 (z := (120 : Int32)) rfl ?_
                            refine Go.istore W3897.cx d_code_383 (L' := #[.val (.int i0), .val (.int i1), .val (.int i2), .val (.int (Int32.ofNat n)), .val (.int y1), .val (.int y2), .val (.int y3), .val (.int y4), .val (.ref r5), .val (.ref r6), .val (.ref a7), .val (.int (Int32.ofNat k0)), .val (.int (Int32.ofNat s0)), .val (.int (Int32.ofNat e3)), .val (.int (Int32.ofNat 2)), .val (.int (low ([y1, y2, y3, y4].getD (s0 + 0) 0))), .val (.int (low ([y1, y2, y3, y4].getD (s0 + 1) 0))), .val (.int (120 : Int32)), .val (.int (120 : Int32)), .unset]) rfl ?_
                            refine Go.iload W3897.cx d_code_385 (v := (Int32.ofNat 2)) rfl ?_
                            refine Go.iload W3897.cx d_code_387 (v := (low ([y1, y2, y3, y4].getD (s0 + 0) 0))) rfl ?_
                            refine Go.iload W3897.cx d_code_389 (v := (low ([y1, y2, y3, y4].getD (s0 + 1) 0))) rfl ?_
                            refine Go.iload W3897.cx d_code_391 (v := (120 : Int32)) rfl ?_
                            refine Go.iload W3897.cx d_code_393 (v := (120 : Int32)) rfl ?_
                            refine Go.invs1 W3897 (Ctr.call (wt := 0) (c_make2 l Z a0 hw hE W3897.old hG (low_rg (gR 0 (by omega))) (low_rg (gR 1 (by omega))) (by decide) (by decide)) W3897.ew (wd hw 7 rfl) (wd hw 3 rfl) (by simp) (by decide) (by decide)) d_code_395 (wd hw 5 rfl) (wd hw 6 rfl) (wd hw 3 rfl) (wd hw 7 rfl) (by decide) pd_21 rfl rfl (rest := []) rfl (Nat.le_of_eq rfl) (cells' := 19) (slots' := 100) rfl rfl (by decide) (by decide) ?_
                            rintro T3898 h3898 _ W3898 z3898 ⟨r3898, rfl, E3898, S3898⟩
                            have SH := SG.ext E3898
                            rw [show ((List.range 2).map fun t => (List.take n [y1, y2, y3, y4]).getD (s0 + t) 0).map low = [low ([y1, y2, y3, y4].getD (s0 + 0) 0), low ([y1, y2, y3, y4].getD (s0 + 1) 0)] from by simp only [List.range_succ, List.range_zero, List.nil_append, List.cons_append, List.map_cons, List.map_nil, gD 0 (by omega), gD 1 (by omega)]] at SH
                            have SI : Str Z h3898 r3898 [low ([y1, y2, y3, y4].getD (s0 + 0) 0), low ([y1, y2, y3, y4].getD (s0 + 1) 0)] := S3898
                            refine Go.astore W3898.cx d_code_398 (L' := #[.val (.int i0), .val (.int i1), .val (.int i2), .val (.int (Int32.ofNat n)), .val (.int y1), .val (.int y2), .val (.int y3), .val (.int y4), .val (.ref r5), .val (.ref r6), .val (.ref a7), .val (.int (Int32.ofNat k0)), .val (.int (Int32.ofNat s0)), .val (.int (Int32.ofNat e3)), .val (.int (Int32.ofNat 2)), .val (.int (low ([y1, y2, y3, y4].getD (s0 + 0) 0))), .val (.int (low ([y1, y2, y3, y4].getD (s0 + 1) 0))), .val (.int (120 : Int32)), .val (.int (120 : Int32)), .val (.ref r3898)]) rfl rfl ?_
                            refine Go.aload W3898.cx d_code_400 (v := (.ref r3898)) rfl rfl ?_
                            refine Go.aload W3898.cx d_code_402 (v := (.ref r6)) rfl rfl ?_
                            refine Go.invv1 W3898 (strEq (wt := 0) W3898.ew hw hG SI SH (by decide) (by decide)) d_code_404 (wd hw 85 rfl) (wd hw 86 rfl) (wd hw 88 rfl) (wd hw 87 rfl) (by decide) SI.exa pd_23 rfl rfl (rest := []) rfl (Nat.le_of_eq rfl) (cells' := 19) (slots' := 100) rfl rfl (by decide) (by decide) ?_
                            rintro T3899 h3899 _ W3899 z3899 ⟨rfl, e3899⟩
                            rw [if_pos rfl]
                            exact Go.iret W3899 d_code_407 (by simp) rfl (by decide) (by decide) ⟨_, rfl, rfl⟩
                          · refine Go.istore W3890.cx d_code_294 (L' := #[.val (.int i0), .val (.int i1), .val (.int i2), .val (.int (Int32.ofNat n)), .val (.int y1), .val (.int y2), .val (.int y3), .val (.int y4), .val (.ref r5), .val (.ref r6), .val (.ref a7), .val (.int (Int32.ofNat k0)), .val (.int (Int32.ofNat s0)), .val (.int (Int32.ofNat e3)), .val (.int (Int32.ofNat 3)), .unset, .unset, .unset, .unset, .unset]) rfl ?_
                            refine Go.iload W3890.cx d_code_296 (v := (Int32.ofNat 3)) rfl ?_
                            refine Go.ifle W3890.cx d_code_298 (by decide) (q := 312) rfl (fun hh => (by first | exact absurd (by decide : (0 : Int32) < Int32.ofNat 3) hh | exact absurd hh (by decide : (0 : Int32) < Int32.ofNat 3))) (fun _ => ?_)
                            refine Go.aload W3890.cx d_code_301 (v := (.ref a7)) rfl rfl ?_
                            refine Go.iload W3890.cx d_code_303 (v := (Int32.ofNat s0)) rfl ?_
                            refine Go.caload W3890 (s0 + 0) d_code_305 V11 rfl (show s0 + 0 < 4 by omega) (Nat.le_of_ble_eq_true rfl) (v := ([y1, y2, y3, y4].getD (s0 + 0) 0)) rfl ?_
                            refine Go.invs1 W3890 (Ctr.call (wt := 0) (c_lower l Z a0 hw hE W3890.old (gR 0 (by omega))) W3890.ew (wd hw 197 rfl) (wd hw 3 rfl) (by simp) (by decide) (by decide)) d_code_306 (wd hw 195 rfl) (wd hw 196 rfl) (wd hw 3 rfl) (wd hw 197 rfl) (by decide) pd_24 rfl rfl (rest := []) rfl (Nat.le_of_eq rfl) (cells' := 16) (slots' := 88) rfl rfl (by decide) (by decide) ?_
                            rintro T3900 h3900 _ W3900 z3900 ⟨rfl, e3900⟩
                            subst e3900
                            refine Go.goto W3900.cx d_code_309 (by decide) (q := 314) rfl ?_
                            refine Go.istore W3900.cx d_code_314 (L' := #[.val (.int i0), .val (.int i1), .val (.int i2), .val (.int (Int32.ofNat n)), .val (.int y1), .val (.int y2), .val (.int y3), .val (.int y4), .val (.ref r5), .val (.ref r6), .val (.ref a7), .val (.int (Int32.ofNat k0)), .val (.int (Int32.ofNat s0)), .val (.int (Int32.ofNat e3)), .val (.int (Int32.ofNat 3)), .val (.int (low ([y1, y2, y3, y4].getD (s0 + 0) 0))), .unset, .unset, .unset, .unset]) rfl ?_
                            refine Go.iload W3900.cx d_code_316 (v := (Int32.ofNat 3)) rfl ?_
                            refine Go.iconst W3900.cx d_code_318 (z := (1 : Int32)) rfl ?_
                            refine Go.icle W3900.cx d_code_319 (by decide) (q := 335) rfl (fun hh => (by first | exact absurd (by decide : (1 : Int32) < Int32.ofNat 3) hh | exact absurd hh (by decide : (1 : Int32) < Int32.ofNat 3))) (fun _ => ?_)
                            refine Go.aload W3900.cx d_code_322 (v := (.ref a7)) rfl rfl ?_
                            refine Go.iload W3900.cx d_code_324 (v := (Int32.ofNat s0)) rfl ?_
                            refine Go.iconst W3900.cx d_code_326 (z := (1 : Int32)) rfl ?_
                            refine Go.iadd W3900.cx d_code_327 ?_
                            refine Go.caload W3900 (s0 + 1) d_code_328 V11 (show Int32.ofNat s0 + 1 = Int32.ofNat (s0 + 1) from add_nat s0 1) (show s0 + 1 < 4 by omega) (Nat.le_of_ble_eq_true rfl) (v := ([y1, y2, y3, y4].getD (s0 + 1) 0)) rfl ?_
                            refine Go.invs1 W3900 (Ctr.call (wt := 0) (c_lower l Z a0 hw hE W3900.old (gR 1 (by omega))) W3900.ew (wd hw 197 rfl) (wd hw 3 rfl) (by simp) (by decide) (by decide)) d_code_329 (wd hw 195 rfl) (wd hw 196 rfl) (wd hw 3 rfl) (wd hw 197 rfl) (by decide) pd_24 rfl rfl (rest := []) rfl (Nat.le_of_eq rfl) (cells' := 16) (slots' := 88) rfl rfl (by decide) (by decide) ?_
                            rintro T3901 h3901 _ W3901 z3901 ⟨rfl, e3901⟩
                            subst e3901
                            refine Go.goto W3901.cx d_code_332 (by decide) (q := 337) rfl ?_
                            refine Go.istore W3901.cx d_code_337 (L' := #[.val (.int i0), .val (.int i1), .val (.int i2), .val (.int (Int32.ofNat n)), .val (.int y1), .val (.int y2), .val (.int y3), .val (.int y4), .val (.ref r5), .val (.ref r6), .val (.ref a7), .val (.int (Int32.ofNat k0)), .val (.int (Int32.ofNat s0)), .val (.int (Int32.ofNat e3)), .val (.int (Int32.ofNat 3)), .val (.int (low ([y1, y2, y3, y4].getD (s0 + 0) 0))), .val (.int (low ([y1, y2, y3, y4].getD (s0 + 1) 0))), .unset, .unset, .unset]) rfl ?_
                            refine Go.iload W3901.cx d_code_339 (v := (Int32.ofNat 3)) rfl ?_
                            refine Go.iconst W3901.cx d_code_341 (z := (2 : Int32)) rfl ?_
                            refine Go.icle W3901.cx d_code_342 (by decide) (q := 358) rfl (fun hh => (by first | exact absurd (by decide : (2 : Int32) < Int32.ofNat 3) hh | exact absurd hh (by decide : (2 : Int32) < Int32.ofNat 3))) (fun _ => ?_)
                            refine Go.aload W3901.cx d_code_345 (v := (.ref a7)) rfl rfl ?_
                            refine Go.iload W3901.cx d_code_347 (v := (Int32.ofNat s0)) rfl ?_
                            refine Go.iconst W3901.cx d_code_349 (z := (2 : Int32)) rfl ?_
                            refine Go.iadd W3901.cx d_code_350 ?_
                            refine Go.caload W3901 (s0 + 2) d_code_351 V11 (show Int32.ofNat s0 + 2 = Int32.ofNat (s0 + 2) from add_nat s0 2) (show s0 + 2 < 4 by omega) (Nat.le_of_ble_eq_true rfl) (v := ([y1, y2, y3, y4].getD (s0 + 2) 0)) rfl ?_
                            refine Go.invs1 W3901 (Ctr.call (wt := 0) (c_lower l Z a0 hw hE W3901.old (gR 2 (by omega))) W3901.ew (wd hw 197 rfl) (wd hw 3 rfl) (by simp) (by decide) (by decide)) d_code_352 (wd hw 195 rfl) (wd hw 196 rfl) (wd hw 3 rfl) (wd hw 197 rfl) (by decide) pd_24 rfl rfl (rest := []) rfl (Nat.le_of_eq rfl) (cells' := 16) (slots' := 88) rfl rfl (by decide) (by decide) ?_
                            rintro T3902 h3902 _ W3902 z3902 ⟨rfl, e3902⟩
                            subst e3902
                            refine Go.goto W3902.cx d_code_355 (by decide) (q := 360) rfl ?_
                            refine Go.istore W3902.cx d_code_360 (L' := #[.val (.int i0), .val (.int i1), .val (.int i2), .val (.int (Int32.ofNat n)), .val (.int y1), .val (.int y2), .val (.int y3), .val (.int y4), .val (.ref r5), .val (.ref r6), .val (.ref a7), .val (.int (Int32.ofNat k0)), .val (.int (Int32.ofNat s0)), .val (.int (Int32.ofNat e3)), .val (.int (Int32.ofNat 3)), .val (.int (low ([y1, y2, y3, y4].getD (s0 + 0) 0))), .val (.int (low ([y1, y2, y3, y4].getD (s0 + 1) 0))), .val (.int (low ([y1, y2, y3, y4].getD (s0 + 2) 0))), .unset, .unset]) rfl ?_
                            refine Go.iload W3902.cx d_code_362 (v := (Int32.ofNat 3)) rfl ?_
                            refine Go.iconst W3902.cx d_code_364 (z := (3 : Int32)) rfl ?_
                            refine Go.icle W3902.cx d_code_365 (by decide) (q := 381) rfl (fun _ => ?_) (fun hh => (by first | exact absurd (by decide : ¬ (3 : Int32) < Int32.ofNat 3) hh | exact absurd hh (by decide : ¬ (3 : Int32) < Int32.ofNat 3)))
                            refine Go.bipush W3902.cx d_code_381 (z := (120 : Int32)) rfl ?_
                            refine Go.istore W3902.cx d_code_383 (L' := #[.val (.int i0), .val (.int i1), .val (.int i2), .val (.int (Int32.ofNat n)), .val (.int y1), .val (.int y2), .val (.int y3), .val (.int y4), .val (.ref r5), .val (.ref r6), .val (.ref a7), .val (.int (Int32.ofNat k0)), .val (.int (Int32.ofNat s0)), .val (.int (Int32.ofNat e3)), .val (.int (Int32.ofNat 3)), .val (.int (low ([y1, y2, y3, y4].getD (s0 + 0) 0))), .val (.int (low ([y1, y2, y3, y4].getD (s0 + 1) 0))), .val (.int (low ([y1, y2, y3, y4].getD (s0 + 2) 0))), .val (.int (120 : Int32)), .unset]) rfl ?_
                            refine Go.iload W3902.cx d_code_385 (v := (Int32.ofNat 3)) rfl ?_
                            refine Go.iload W3902.cx d_code_387 (v := (low ([y1, y2, y3, y4].getD (s0 + 0) 0))) rfl ?_
                            refine Go.iload W3902.cx d_code_389 (v := (low ([y1, y2, y3, y4].getD (s0 + 1) 0))) rfl ?_
                            refine Go.iload W3902.cx d_code_391 (v := (low ([y1, y2, y3, y4].getD (s0 + 2) 0))) rfl ?_
                            refine Go.iload W3902.cx d_code_393 (v := (120 : Int32)) rfl ?_
                            refine Go.invs1 W3902 (Ctr.call (wt := 0) (c_make3 l Z a0 hw hE W3902.old hG (low_rg (gR 0 (by omega))) (low_rg (gR 1 (by omega))) (low_rg (gR 2 (by omega))) (by decide)) W3902.ew (wd hw 7 rfl) (wd hw 3 rfl) (by simp) (by decide) (by decide)) d_code_395 (wd hw 5 rfl) (wd hw 6 rfl) (wd hw 3 rfl) (wd hw 7 rfl) (by decide) pd_21 rfl rfl (rest := []) rfl (Nat.le_of_eq rfl) (cells' := 19) (slots' := 100) rfl rfl (by decide) (by decide) ?_
                            rintro T3903 h3903 _ W3903 z3903 ⟨r3903, rfl, E3903, S3903⟩
                            have SH := SG.ext E3903
                            rw [show ((List.range 3).map fun t => (List.take n [y1, y2, y3, y4]).getD (s0 + t) 0).map low = [low ([y1, y2, y3, y4].getD (s0 + 0) 0), low ([y1, y2, y3, y4].getD (s0 + 1) 0), low ([y1, y2, y3, y4].getD (s0 + 2) 0)] from by simp only [List.range_succ, List.range_zero, List.nil_append, List.cons_append, List.map_cons, List.map_nil, gD 0 (by omega), gD 1 (by omega), gD 2 (by omega)]] at SH
                            have SI : Str Z h3903 r3903 [low ([y1, y2, y3, y4].getD (s0 + 0) 0), low ([y1, y2, y3, y4].getD (s0 + 1) 0), low ([y1, y2, y3, y4].getD (s0 + 2) 0)] := S3903
                            refine Go.astore W3903.cx d_code_398 (L' := #[.val (.int i0), .val (.int i1), .val (.int i2), .val (.int (Int32.ofNat n)), .val (.int y1), .val (.int y2), .val (.int y3), .val (.int y4), .val (.ref r5), .val (.ref r6), .val (.ref a7), .val (.int (Int32.ofNat k0)), .val (.int (Int32.ofNat s0)), .val (.int (Int32.ofNat e3)), .val (.int (Int32.ofNat 3)), .val (.int (low ([y1, y2, y3, y4].getD (s0 + 0) 0))), .val (.int (low ([y1, y2, y3, y4].getD (s0 + 1) 0))), .val (.int (low ([y1, y2, y3, y4].getD (s0 + 2) 0))), .val (.int (120 : Int32)), .val (.ref r3903)]) rfl rfl ?_
                            refine Go.aload W3903.cx d_code_400 (v := (.ref r3903)) rfl rfl ?_
                            refine Go.aload W3903.cx d_code_402 (v := (.ref r6)) rfl rfl ?_
                            refine Go.invv1 W3903 (strEq (wt := 0) W3903.ew hw hG SI SH (by decide) (by decide)) d_code_404 (wd hw 85 rfl) (wd hw 86 rfl) (wd hw 88 rfl) (wd hw 87 rfl) (by decide) SI.exa pd_23 rfl rfl (rest := []) rfl (Nat.le_of_eq rfl) (cells' := 19) (slots' := 100) rfl rfl (by decide) (by decide) ?_
                            rintro T3904 h3904 _ W3904 z3904 ⟨rfl, e3904⟩
                            rw [if_pos rfl]
                            exact Go.iret W3904 d_code_407 (by simp) rfl (by decide) (by decide) ⟨_, rfl, rfl⟩
                          · refine Go.istore W3890.cx d_code_294 (L' := #[.val (.int i0), .val (.int i1), .val (.int i2), .val (.int (Int32.ofNat n)), .val (.int y1), .val (.int y2), .val (.int y3), .val (.int y4), .val (.ref r5), .val (.ref r6), .val (.ref a7), .val (.int (Int32.ofNat k0)), .val (.int (Int32.ofNat s0)), .val (.int (Int32.ofNat e3)), .val (.int (Int32.ofNat 4)), .unset, .unset, .unset, .unset, .unset]) rfl ?_
                            refine Go.iload W3890.cx d_code_296 (v := (Int32.ofNat 4)) rfl ?_
                            refine Go.ifle W3890.cx d_code_298 (by decide) (q := 312) rfl (fun hh => (by first | exact absurd (by decide : (0 : Int32) < Int32.ofNat 4) hh | exact absurd hh (by decide : (0 : Int32) < Int32.ofNat 4))) (fun _ => ?_)
                            refine Go.aload W3890.cx d_code_301 (v := (.ref a7)) rfl rfl ?_
                            refine Go.iload W3890.cx d_code_303 (v := (Int32.ofNat s0)) rfl ?_
                            refine Go.caload W3890 (s0 + 0) d_code_305 V11 rfl (show s0 + 0 < 4 by omega) (Nat.le_of_ble_eq_true rfl) (v := ([y1, y2, y3, y4].getD (s0 + 0) 0)) rfl ?_
                            refine Go.invs1 W3890 (Ctr.call (wt := 0) (c_lower l Z a0 hw hE W3890.old (gR 0 (by omega))) W3890.ew (wd hw 197 rfl) (wd hw 3 rfl) (by simp) (by decide) (by decide)) d_code_306 (wd hw 195 rfl) (wd hw 196 rfl) (wd hw 3 rfl) (wd hw 197 rfl) (by decide) pd_24 rfl rfl (rest := []) rfl (Nat.le_of_eq rfl) (cells' := 16) (slots' := 88) rfl rfl (by decide) (by decide) ?_
                            rintro T3905 h3905 _ W3905 z3905 ⟨rfl, e3905⟩
                            subst e3905
                            refine Go.goto W3905.cx d_code_309 (by decide) (q := 314) rfl ?_
                            refine Go.istore W3905.cx d_code_314 (L' := #[.val (.int i0), .val (.int i1), .val (.int i2), .val (.int (Int32.ofNat n)), .val (.int y1), .val (.int y2), .val (.int y3), .val (.int y4), .val (.ref r5), .val (.ref r6), .val (.ref a7), .val (.int (Int32.ofNat k0)), .val (.int (Int32.ofNat s0)), .val (.int (Int32.ofNat e3)), .val (.int (Int32.ofNat 4)), .val (.int (low ([y1, y2, y3, y4].getD (s0 + 0) 0))), .unset, .unset, .unset, .unset]) rfl ?_
                            refine Go.iload W3905.cx d_code_316 (v := (Int32.ofNat 4)) rfl ?_
                            refine Go.iconst W3905.cx d_code_318 (z := (1 : Int32)) rfl ?_
                            refine Go.icle W3905.cx d_code_319 (by decide) (q := 335) rfl (fun hh => (by first | exact absurd (by decide : (1 : Int32) < Int32.ofNat 4) hh | exact absurd hh (by decide : (1 : Int32) < Int32.ofNat 4))) (fun _ => ?_)
                            refine Go.aload W3905.cx d_code_322 (v := (.ref a7)) rfl rfl ?_
                            refine Go.iload W3905.cx d_code_324 (v := (Int32.ofNat s0)) rfl ?_
                            refine Go.iconst W3905.cx d_code_326 (z := (1 : Int32)) rfl ?_
                            refine Go.iadd W3905.cx d_code_327 ?_
                            refine Go.caload W3905 (s0 + 1) d_code_328 V11 (show Int32.ofNat s0 + 1 = Int32.ofNat (s0 + 1) from add_nat s0 1) (show s0 + 1 < 4 by omega) (Nat.le_of_ble_eq_true rfl) (v := ([y1, y2, y3, y4].getD (s0 + 1) 0)) rfl ?_
                            refine Go.invs1 W3905 (Ctr.call (wt := 0) (c_lower l Z a0 hw hE W3905.old (gR 1 (by omega))) W3905.ew (wd hw 197 rfl) (wd hw 3 rfl) (by simp) (by decide) (by decide)) d_code_329 (wd hw 195 rfl) (wd hw 196 rfl) (wd hw 3 rfl) (wd hw 197 rfl) (by decide) pd_24 rfl rfl (rest := []) rfl (Nat.le_of_eq rfl) (cells' := 16) (slots' := 88) rfl rfl (by decide) (by decide) ?_
                            rintro T3906 h3906 _ W3906 z3906 ⟨rfl, e3906⟩
                            subst e3906
                            refine Go.goto W3906.cx d_code_332 (by decide) (q := 337) rfl ?_
                            refine Go.istore W3906.cx d_code_337 (L' := #[.val (.int i0), .val (.int i1), .val (.int i2), .val (.int (Int32.ofNat n)), .val (.int y1), .val (.int y2), .val (.int y3), .val (.int y4), .val (.ref r5), .val (.ref r6), .val (.ref a7), .val (.int (Int32.ofNat k0)), .val (.int (Int32.ofNat s0)), .val (.int (Int32.ofNat e3)), .val (.int (Int32.ofNat 4)), .val (.int (low ([y1, y2, y3, y4].getD (s0 + 0) 0))), .val (.int (low ([y1, y2, y3, y4].getD (s0 + 1) 0))), .unset, .unset, .unset]) rfl ?_
                            refine Go.iload W3906.cx d_code_339 (v := (Int32.ofNat 4)) rfl ?_
                            refine Go.iconst W3906.cx d_code_341 (z := (2 : Int32)) rfl ?_
                            refine Go.icle W3906.cx d_code_342 (by decide) (q := 358) rfl (fun hh => (by first | exact absurd (by decide : (2 : Int32) < Int32.ofNat 4) hh | exact absurd hh (by decide : (2 : Int32) < Int32.ofNat 4))) (fun _ => ?_)
                            refine Go.aload W3906.cx d_code_345 (v := (.ref a7)) rfl rfl ?_
                            refine Go.iload W3906.cx d_code_347 (v := (Int32.ofNat s0)) rfl ?_
                            refine Go.iconst W3906.cx d_code_349 (z := (2 : Int32)) rfl ?_
                            refine Go.iadd W3906.cx d_code_350 ?_
                            refine Go.caload W3906 (s0 + 2) d_code_351 V11 (show Int32.ofNat s0 + 2 = Int32.ofNat (s0 + 2) from add_nat s0 2) (show s0 + 2 < 4 by omega) (Nat.le_of_ble_eq_true rfl) (v := ([y1, y2, y3, y4].getD (s0 + 2) 0)) rfl ?_
                            refine Go.invs1 W3906 (Ctr.call (wt := 0) (c_lower l Z a0 hw hE W3906.old (gR 2 (by omega))) W3906.ew (wd hw 197 rfl) (wd hw 3 rfl) (by simp) (by decide) (by decide)) d_code_352 (wd hw 195 rfl) (wd hw 196 rfl) (wd hw 3 rfl) (wd hw 197 rfl) (by decide) pd_24 rfl rfl (rest := []) rfl (Nat.le_of_eq rfl) (cells' := 16) (slots' := 88) rfl rfl (by decide) (by decide) ?_
                            rintro T3907 h3907 _ W3907 z3907 ⟨rfl, e3907⟩
                            subst e3907
                            refine Go.goto W3907.cx d_code_355 (by decide) (q := 360) rfl ?_
                            refine Go.istore W3907.cx d_code_360 (L' := #[.val (.int i0), .val (.int i1), .val (.int i2), .val (.int (Int32.ofNat n)), .val (.int y1), .val (.int y2), .val (.int y3), .val (.int y4), .val (.ref r5), .val (.ref r6), .val (.ref a7), .val (.int (Int32.ofNat k0)), .val (.int (Int32.ofNat s0)), .val (.int (Int32.ofNat e3)), .val (.int (Int32.ofNat 4)), .val (.int (low ([y1, y2, y3, y4].getD (s0 + 0) 0))), .val (.int (low ([y1, y2, y3, y4].getD (s0 + 1) 0))), .val (.int (low ([y1, y2, y3, y4].getD (s0 + 2) 0))), .unset, .unset]) rfl ?_
                            refine Go.iload W3907.cx d_code_362 (v := (Int32.ofNat 4)) rfl ?_
                            refine Go.iconst W3907.cx d_code_364 (z := (3 : Int32)) rfl ?_
                            refine Go.icle W3907.cx d_code_365 (by decide) (q := 381) rfl (fun hh => (by first | exact absurd (by decide : (3 : Int32) < Int32.ofNat 4) hh | exact absurd hh (by decide : (3 : Int32) < Int32.ofNat 4))) (fun _ => ?_)
                            refine Go.aload W3907.cx d_code_368 (v := (.ref a7)) rfl rfl ?_
                            refine Go.iload W3907.cx d_code_370 (v := (Int32.ofNat s0)) rfl ?_
                            refine Go.iconst W3907.cx d_code_372 (z := (3 : Int32)) rfl ?_
                            refine Go.iadd W3907.cx d_code_373 ?_
                            refine Go.caload W3907 (s0 + 3) d_code_374 V11 (show Int32.ofNat s0 + 3 = Int32.ofNat (s0 + 3) from add_nat s0 3) (show s0 + 3 < 4 by omega) (Nat.le_of_ble_eq_true rfl) (v := ([y1, y2, y3, y4].getD (s0 + 3) 0)) rfl ?_
                            refine Go.invs1 W3907 (Ctr.call (wt := 0) (c_lower l Z a0 hw hE W3907.old (gR 3 (by omega))) W3907.ew (wd hw 197 rfl) (wd hw 3 rfl) (by simp) (by decide) (by decide)) d_code_375 (wd hw 195 rfl) (wd hw 196 rfl) (wd hw 3 rfl) (wd hw 197 rfl) (by decide) pd_24 rfl rfl (rest := []) rfl (Nat.le_of_eq rfl) (cells' := 16) (slots' := 88) rfl rfl (by decide) (by decide) ?_
                            rintro T3908 h3908 _ W3908 z3908 ⟨rfl, e3908⟩
                            subst e3908
                            refine Go.goto W3908.cx d_code_378 (by decide) (q := 383) rfl ?_
                            refine Go.istore W3908.cx d_code_383 (L' := #[.val (.int i0), .val (.int i1), .val (.int i2), .val (.int (Int32.ofNat n)), .val (.int y1), .val (.int y2), .val (.int y3), .val (.int y4), .val (.ref r5), .val (.ref r6), .val (.ref a7), .val (.int (Int32.ofNat k0)), .val (.int (Int32.ofNat s0)), .val (.int (Int32.ofNat e3)), .val (.int (Int32.ofNat 4)), .val (.int (low ([y1, y2, y3, y4].getD (s0 + 0) 0))), .val (.int (low ([y1, y2, y3, y4].getD (s0 + 1) 0))), .val (.int (low ([y1, y2, y3, y4].getD (s0 + 2) 0))), .val (.int (low ([y1, y2, y3, y4].getD (s0 + 3) 0))), .unset]) rfl ?_
                            refine Go.iload W3908.cx d_code_385 (v := (Int32.ofNat 4)) rfl ?_
                            refine Go.iload W3908.cx d_code_387 (v := (low ([y1, y2, y3, y4].getD (s0 + 0) 0))) rfl ?_
                            refine Go.iload W3908.cx d_code_389 (v := (low ([y1, y2, y3, y4].getD (s0 + 1) 0))) rfl ?_
                            refine Go.iload W3908.cx d_code_391 (v := (low ([y1, y2, y3, y4].getD (s0 + 2) 0))) rfl ?_
                            refine Go.iload W3908.cx d_code_393 (v := (low ([y1, y2, y3, y4].getD (s0 + 3) 0))) rfl ?_
                            refine Go.invs1 W3908 (Ctr.call (wt := 0) (c_make4 l Z a0 hw hE W3908.old hG (low_rg (gR 0 (by omega))) (low_rg (gR 1 (by omega))) (low_rg (gR 2 (by omega))) (low_rg (gR 3 (by omega)))) W3908.ew (wd hw 7 rfl) (wd hw 3 rfl) (by simp) (by decide) (by decide)) d_code_395 (wd hw 5 rfl) (wd hw 6 rfl) (wd hw 3 rfl) (wd hw 7 rfl) (by decide) pd_21 rfl rfl (rest := []) rfl (Nat.le_of_eq rfl) (cells' := 19) (slots' := 100) rfl rfl (by decide) (by decide) ?_
                            rintro T3909 h3909 _ W3909 z3909 ⟨r3909, rfl, E3909, S3909⟩
                            have SH := SG.ext E3909
                            rw [show ((List.range 4).map fun t => (List.take n [y1, y2, y3, y4]).getD (s0 + t) 0).map low = [low ([y1, y2, y3, y4].getD (s0 + 0) 0), low ([y1, y2, y3, y4].getD (s0 + 1) 0), low ([y1, y2, y3, y4].getD (s0 + 2) 0), low ([y1, y2, y3, y4].getD (s0 + 3) 0)] from by simp only [List.range_succ, List.range_zero, List.nil_append, List.cons_append, List.map_cons, List.map_nil, gD 0 (by omega), gD 1 (by omega), gD 2 (by omega), gD 3 (by omega)]] at SH
                            have SI : Str Z h3909 r3909 [low ([y1, y2, y3, y4].getD (s0 + 0) 0), low ([y1, y2, y3, y4].getD (s0 + 1) 0), low ([y1, y2, y3, y4].getD (s0 + 2) 0), low ([y1, y2, y3, y4].getD (s0 + 3) 0)] := S3909
                            refine Go.astore W3909.cx d_code_398 (L' := #[.val (.int i0), .val (.int i1), .val (.int i2), .val (.int (Int32.ofNat n)), .val (.int y1), .val (.int y2), .val (.int y3), .val (.int y4), .val (.ref r5), .val (.ref r6), .val (.ref a7), .val (.int (Int32.ofNat k0)), .val (.int (Int32.ofNat s0)), .val (.int (Int32.ofNat e3)), .val (.int (Int32.ofNat 4)), .val (.int (low ([y1, y2, y3, y4].getD (s0 + 0) 0))), .val (.int (low ([y1, y2, y3, y4].getD (s0 + 1) 0))), .val (.int (low ([y1, y2, y3, y4].getD (s0 + 2) 0))), .val (.int (low ([y1, y2, y3, y4].getD (s0 + 3) 0))), .val (.ref r3909)]) rfl rfl ?_
                            refine Go.aload W3909.cx d_code_400 (v := (.ref r3909)) rfl rfl ?_
                            refine Go.aload W3909.cx d_code_402 (v := (.ref r6)) rfl rfl ?_
                            refine Go.invv1 W3909 (strEq (wt := 0) W3909.ew hw hG SI SH (by decide) (by decide)) d_code_404 (wd hw 85 rfl) (wd hw 86 rfl) (wd hw 88 rfl) (wd hw 87 rfl) (by decide) SI.exa pd_23 rfl rfl (rest := []) rfl (Nat.le_of_eq rfl) (cells' := 19) (slots' := 100) rfl rfl (by decide) (by decide) ?_
                            rintro T3910 h3910 _ W3910 z3910 ⟨rfl, e3910⟩
                            rw [if_pos rfl]
                            exact Go.iret W3910 d_code_407 (by simp) rfl (by decide) (by decide) ⟨_, rfl, rfl⟩
                        refine Go.iload W3720.cx d_code_272 (v := (Int32.ofNat k0)) rfl ?_
                        refine Go.iconst W3720.cx d_code_274 (z := (3 : Int32)) rfl ?_
                        have lt289 : Int32.ofNat 3 < Int32.ofNat k0 ↔ 3 < k0 := lt_nat (by omega) (by omega)
                        refine Go.icle W3720.cx d_code_275 (by decide) (q := 289) rfl (fun c1 => ?_) (fun c1 => ?_)
                        · exact J289 e2 (Or.inr ⟨fun z => c1 (lt289.mpr z.1), rfl⟩) _ W3720
                        · refine Go.iload W3720.cx d_code_278 (v := y4) rfl ?_
                          refine Go.invs1 W3720 (Ctr.call (wt := 0) (c_ws l Z a0 hw hE W3720.old y4) W3720.ew (wd hw 132 rfl) (wd hw 3 rfl) (by simp) (by decide) (by decide)) d_code_280 (wd hw 130 rfl) (wd hw 131 rfl) (wd hw 3 rfl) (wd hw 132 rfl) (by decide) pd_25 rfl rfl (rest := []) rfl (Nat.le_of_eq rfl) (cells' := 16) (slots' := 88) rfl rfl (by decide) (by decide) ?_
                          rintro T3721 h3721 _ W3721 z3721 ⟨y3721, rfl, B3721, e3721⟩
                          subst e3721
                          refine Go.ifne W3721.cx d_code_283 (by decide) (q := 289) rfl (fun c2 => ?_) (fun c2 => ?_)
                          · exact J289 e2 (Or.inr ⟨fun z => z.2 (B3721.yes c2), rfl⟩) _ W3721
                          · refine Go.iconst W3721.cx d_code_286 (z := (4 : Int32)) rfl ?_
                            refine Go.istore W3721.cx d_code_287 (L' := #[.val (.int i0), .val (.int i1), .val (.int i2), .val (.int (Int32.ofNat n)), .val (.int y1), .val (.int y2), .val (.int y3), .val (.int y4), .val (.ref r5), .val (.ref r6), .val (.ref a7), .val (.int (Int32.ofNat k0)), .val (.int (Int32.ofNat s0)), .val (.int (4 : Int32)), .unset, .unset, .unset, .unset, .unset, .unset]) rfl ?_
                            exact J289 4 (Or.inl ⟨lt289.mp c1, B3721.no c2, rfl⟩) _ W3721
                      refine Go.iload W3550.cx d_code_255 (v := (Int32.ofNat k0)) rfl ?_
                      refine Go.iconst W3550.cx d_code_257 (z := (2 : Int32)) rfl ?_
                      have lt272 : Int32.ofNat 2 < Int32.ofNat k0 ↔ 2 < k0 := lt_nat (by omega) (by omega)
                      refine Go.icle W3550.cx d_code_258 (by decide) (q := 272) rfl (fun c1 => ?_) (fun c1 => ?_)
                      · exact J272 e1 (Or.inr ⟨fun z => c1 (lt272.mpr z.1), rfl⟩) _ W3550
                      · refine Go.iload W3550.cx d_code_261 (v := y3) rfl ?_
                        refine Go.invs1 W3550 (Ctr.call (wt := 0) (c_ws l Z a0 hw hE W3550.old y3) W3550.ew (wd hw 132 rfl) (wd hw 3 rfl) (by simp) (by decide) (by decide)) d_code_263 (wd hw 130 rfl) (wd hw 131 rfl) (wd hw 3 rfl) (wd hw 132 rfl) (by decide) pd_25 rfl rfl (rest := []) rfl (Nat.le_of_eq rfl) (cells' := 16) (slots' := 88) rfl rfl (by decide) (by decide) ?_
                        rintro T3551 h3551 _ W3551 z3551 ⟨y3551, rfl, B3551, e3551⟩
                        subst e3551
                        refine Go.ifne W3551.cx d_code_266 (by decide) (q := 272) rfl (fun c2 => ?_) (fun c2 => ?_)
                        · exact J272 e1 (Or.inr ⟨fun z => z.2 (B3551.yes c2), rfl⟩) _ W3551
                        · refine Go.iconst W3551.cx d_code_269 (z := (3 : Int32)) rfl ?_
                          refine Go.istore W3551.cx d_code_270 (L' := #[.val (.int i0), .val (.int i1), .val (.int i2), .val (.int (Int32.ofNat n)), .val (.int y1), .val (.int y2), .val (.int y3), .val (.int y4), .val (.ref r5), .val (.ref r6), .val (.ref a7), .val (.int (Int32.ofNat k0)), .val (.int (Int32.ofNat s0)), .val (.int (3 : Int32)), .unset, .unset, .unset, .unset, .unset, .unset]) rfl ?_
                          exact J272 3 (Or.inl ⟨lt272.mp c1, B3551.no c2, rfl⟩) _ W3551
                    refine Go.iload W3380.cx d_code_238 (v := (Int32.ofNat k0)) rfl ?_
                    refine Go.iconst W3380.cx d_code_240 (z := (1 : Int32)) rfl ?_
                    have lt255 : Int32.ofNat 1 < Int32.ofNat k0 ↔ 1 < k0 := lt_nat (by omega) (by omega)
                    refine Go.icle W3380.cx d_code_241 (by decide) (q := 255) rfl (fun c1 => ?_) (fun c1 => ?_)
                    · exact J255 e0 (Or.inr ⟨fun z => c1 (lt255.mpr z.1), rfl⟩) _ W3380
                    · refine Go.iload W3380.cx d_code_244 (v := y2) rfl ?_
                      refine Go.invs1 W3380 (Ctr.call (wt := 0) (c_ws l Z a0 hw hE W3380.old y2) W3380.ew (wd hw 132 rfl) (wd hw 3 rfl) (by simp) (by decide) (by decide)) d_code_246 (wd hw 130 rfl) (wd hw 131 rfl) (wd hw 3 rfl) (wd hw 132 rfl) (by decide) pd_25 rfl rfl (rest := []) rfl (Nat.le_of_eq rfl) (cells' := 16) (slots' := 88) rfl rfl (by decide) (by decide) ?_
                      rintro T3381 h3381 _ W3381 z3381 ⟨y3381, rfl, B3381, e3381⟩
                      subst e3381
                      refine Go.ifne W3381.cx d_code_249 (by decide) (q := 255) rfl (fun c2 => ?_) (fun c2 => ?_)
                      · exact J255 e0 (Or.inr ⟨fun z => z.2 (B3381.yes c2), rfl⟩) _ W3381
                      · refine Go.iconst W3381.cx d_code_252 (z := (2 : Int32)) rfl ?_
                        refine Go.istore W3381.cx d_code_253 (L' := #[.val (.int i0), .val (.int i1), .val (.int i2), .val (.int (Int32.ofNat n)), .val (.int y1), .val (.int y2), .val (.int y3), .val (.int y4), .val (.ref r5), .val (.ref r6), .val (.ref a7), .val (.int (Int32.ofNat k0)), .val (.int (Int32.ofNat s0)), .val (.int (2 : Int32)), .unset, .unset, .unset, .unset, .unset, .unset]) rfl ?_
                        exact J255 2 (Or.inl ⟨lt255.mp c1, B3381.no c2, rfl⟩) _ W3381
                  refine Go.iload W3180.cx d_code_222 (v := (Int32.ofNat k0)) rfl ?_
                  have lt238 : Int32.ofNat 0 < Int32.ofNat k0 ↔ 0 < k0 := lt_nat (by omega) (by omega)
                  refine Go.ifle W3180.cx d_code_224 (by decide) (q := 238) rfl (fun c1 => ?_) (fun c1 => ?_)
                  · exact J238 s0 (Or.inr ⟨fun z => c1 (lt238.mpr z.1), rfl⟩) _ W3180
                  · refine Go.iload W3180.cx d_code_227 (v := y1) rfl ?_
                    refine Go.invs1 W3180 (Ctr.call (wt := 0) (c_ws l Z a0 hw hE W3180.old y1) W3180.ew (wd hw 132 rfl) (wd hw 3 rfl) (by simp) (by decide) (by decide)) d_code_229 (wd hw 130 rfl) (wd hw 131 rfl) (wd hw 3 rfl) (wd hw 132 rfl) (by decide) pd_25 rfl rfl (rest := []) rfl (Nat.le_of_eq rfl) (cells' := 16) (slots' := 88) rfl rfl (by decide) (by decide) ?_
                    rintro T3181 h3181 _ W3181 z3181 ⟨y3181, rfl, B3181, e3181⟩
                    subst e3181
                    refine Go.ifne W3181.cx d_code_232 (by decide) (q := 238) rfl (fun c2 => ?_) (fun c2 => ?_)
                    · exact J238 s0 (Or.inr ⟨fun z => z.2 (B3181.yes c2), rfl⟩) _ W3181
                    · refine Go.iconst W3181.cx d_code_235 (z := (1 : Int32)) rfl ?_
                      refine Go.istore W3181.cx d_code_236 (L' := #[.val (.int i0), .val (.int i1), .val (.int i2), .val (.int (Int32.ofNat n)), .val (.int y1), .val (.int y2), .val (.int y3), .val (.int y4), .val (.ref r5), .val (.ref r6), .val (.ref a7), .val (.int (Int32.ofNat k0)), .val (.int (Int32.ofNat s0)), .val (.int (1 : Int32)), .unset, .unset, .unset, .unset, .unset, .unset]) rfl ?_
                      exact J238 1 (Or.inl ⟨lt238.mp c1, B3181.no c2, rfl⟩) _ W3181
                refine Go.iload W3020.cx d_code_202 (v := (Int32.ofNat k0)) rfl ?_
                have lt218 : Int32.ofNat 0 < Int32.ofNat k0 ↔ 0 < k0 := lt_nat (by omega) (by omega)
                refine Go.ifle W3020.cx d_code_204 (by decide) (q := 218) rfl (fun c1 => ?_) (fun c1 => ?_)
                · exact J218 s1 (Or.inr ⟨fun z => c1 (lt218.mpr z.1), rfl⟩) _ W3020
                · refine Go.iload W3020.cx d_code_207 (v := y1) rfl ?_
                  refine Go.invs1 W3020 (Ctr.call (wt := 0) (c_ws l Z a0 hw hE W3020.old y1) W3020.ew (wd hw 132 rfl) (wd hw 3 rfl) (by simp) (by decide) (by decide)) d_code_209 (wd hw 130 rfl) (wd hw 131 rfl) (wd hw 3 rfl) (wd hw 132 rfl) (by decide) pd_25 rfl rfl (rest := []) rfl (Nat.le_of_eq rfl) (cells' := 16) (slots' := 88) rfl rfl (by decide) (by decide) ?_
                  rintro T3021 h3021 _ W3021 z3021 ⟨y3021, rfl, B3021, e3021⟩
                  subst e3021
                  refine Go.ifne W3021.cx d_code_212 (by decide) (q := 218) rfl (fun c2 => ?_) (fun c2 => ?_)
                  · exact J218 s1 (Or.inr ⟨fun z => z.2 (B3021.yes c2), rfl⟩) _ W3021
                  · refine Go.iconst W3021.cx d_code_215 (z := (0 : Int32)) rfl ?_
                    refine Go.istore W3021.cx d_code_216 (L' := #[.val (.int i0), .val (.int i1), .val (.int i2), .val (.int (Int32.ofNat n)), .val (.int y1), .val (.int y2), .val (.int y3), .val (.int y4), .val (.ref r5), .val (.ref r6), .val (.ref a7), .val (.int (Int32.ofNat k0)), .val (.int (0 : Int32)), .unset, .unset, .unset, .unset, .unset, .unset, .unset]) rfl ?_
                    exact J218 0 (Or.inl ⟨lt218.mp c1, B3021.no c2, rfl⟩) _ W3021
              refine Go.iload W2850.cx d_code_185 (v := (Int32.ofNat k0)) rfl ?_
              refine Go.iconst W2850.cx d_code_187 (z := (1 : Int32)) rfl ?_
              have lt202 : Int32.ofNat 1 < Int32.ofNat k0 ↔ 1 < k0 := lt_nat (by omega) (by omega)
              refine Go.icle W2850.cx d_code_188 (by decide) (q := 202) rfl (fun c1 => ?_) (fun c1 => ?_)
              · exact J202 s2 (Or.inr ⟨fun z => c1 (lt202.mpr z.1), rfl⟩) _ W2850
              · refine Go.iload W2850.cx d_code_191 (v := y2) rfl ?_
                refine Go.invs1 W2850 (Ctr.call (wt := 0) (c_ws l Z a0 hw hE W2850.old y2) W2850.ew (wd hw 132 rfl) (wd hw 3 rfl) (by simp) (by decide) (by decide)) d_code_193 (wd hw 130 rfl) (wd hw 131 rfl) (wd hw 3 rfl) (wd hw 132 rfl) (by decide) pd_25 rfl rfl (rest := []) rfl (Nat.le_of_eq rfl) (cells' := 16) (slots' := 88) rfl rfl (by decide) (by decide) ?_
                rintro T2851 h2851 _ W2851 z2851 ⟨y2851, rfl, B2851, e2851⟩
                subst e2851
                refine Go.ifne W2851.cx d_code_196 (by decide) (q := 202) rfl (fun c2 => ?_) (fun c2 => ?_)
                · exact J202 s2 (Or.inr ⟨fun z => z.2 (B2851.yes c2), rfl⟩) _ W2851
                · refine Go.iconst W2851.cx d_code_199 (z := (1 : Int32)) rfl ?_
                  refine Go.istore W2851.cx d_code_200 (L' := #[.val (.int i0), .val (.int i1), .val (.int i2), .val (.int (Int32.ofNat n)), .val (.int y1), .val (.int y2), .val (.int y3), .val (.int y4), .val (.ref r5), .val (.ref r6), .val (.ref a7), .val (.int (Int32.ofNat k0)), .val (.int (1 : Int32)), .unset, .unset, .unset, .unset, .unset, .unset, .unset]) rfl ?_
                  exact J202 1 (Or.inl ⟨lt202.mp c1, B2851.no c2, rfl⟩) _ W2851
            refine Go.iload W2680.cx d_code_168 (v := (Int32.ofNat k0)) rfl ?_
            refine Go.iconst W2680.cx d_code_170 (z := (2 : Int32)) rfl ?_
            have lt185 : Int32.ofNat 2 < Int32.ofNat k0 ↔ 2 < k0 := lt_nat (by omega) (by omega)
            refine Go.icle W2680.cx d_code_171 (by decide) (q := 185) rfl (fun c1 => ?_) (fun c1 => ?_)
            · exact J185 s3 (Or.inr ⟨fun z => c1 (lt185.mpr z.1), rfl⟩) _ W2680
            · refine Go.iload W2680.cx d_code_174 (v := y3) rfl ?_
              refine Go.invs1 W2680 (Ctr.call (wt := 0) (c_ws l Z a0 hw hE W2680.old y3) W2680.ew (wd hw 132 rfl) (wd hw 3 rfl) (by simp) (by decide) (by decide)) d_code_176 (wd hw 130 rfl) (wd hw 131 rfl) (wd hw 3 rfl) (wd hw 132 rfl) (by decide) pd_25 rfl rfl (rest := []) rfl (Nat.le_of_eq rfl) (cells' := 16) (slots' := 88) rfl rfl (by decide) (by decide) ?_
              rintro T2681 h2681 _ W2681 z2681 ⟨y2681, rfl, B2681, e2681⟩
              subst e2681
              refine Go.ifne W2681.cx d_code_179 (by decide) (q := 185) rfl (fun c2 => ?_) (fun c2 => ?_)
              · exact J185 s3 (Or.inr ⟨fun z => z.2 (B2681.yes c2), rfl⟩) _ W2681
              · refine Go.iconst W2681.cx d_code_182 (z := (2 : Int32)) rfl ?_
                refine Go.istore W2681.cx d_code_183 (L' := #[.val (.int i0), .val (.int i1), .val (.int i2), .val (.int (Int32.ofNat n)), .val (.int y1), .val (.int y2), .val (.int y3), .val (.int y4), .val (.ref r5), .val (.ref r6), .val (.ref a7), .val (.int (Int32.ofNat k0)), .val (.int (2 : Int32)), .unset, .unset, .unset, .unset, .unset, .unset, .unset]) rfl ?_
                exact J185 2 (Or.inl ⟨lt185.mp c1, B2681.no c2, rfl⟩) _ W2681
          refine Go.iload W2470.cx d_code_151 (v := (Int32.ofNat k0)) rfl ?_
          refine Go.iconst W2470.cx d_code_153 (z := (3 : Int32)) rfl ?_
          have lt168 : Int32.ofNat 3 < Int32.ofNat k0 ↔ 3 < k0 := lt_nat (by omega) (by omega)
          refine Go.icle W2470.cx d_code_154 (by decide) (q := 168) rfl (fun c1 => ?_) (fun c1 => ?_)
          · exact J168 k0 (Or.inr ⟨fun z => c1 (lt168.mpr z.1), rfl⟩) _ W2470
          · refine Go.iload W2470.cx d_code_157 (v := y4) rfl ?_
            refine Go.invs1 W2470 (Ctr.call (wt := 0) (c_ws l Z a0 hw hE W2470.old y4) W2470.ew (wd hw 132 rfl) (wd hw 3 rfl) (by simp) (by decide) (by decide)) d_code_159 (wd hw 130 rfl) (wd hw 131 rfl) (wd hw 3 rfl) (wd hw 132 rfl) (by decide) pd_25 rfl rfl (rest := []) rfl (Nat.le_of_eq rfl) (cells' := 16) (slots' := 88) rfl rfl (by decide) (by decide) ?_
            rintro T2471 h2471 _ W2471 z2471 ⟨y2471, rfl, B2471, e2471⟩
            subst e2471
            refine Go.ifne W2471.cx d_code_162 (by decide) (q := 168) rfl (fun c2 => ?_) (fun c2 => ?_)
            · exact J168 k0 (Or.inr ⟨fun z => z.2 (B2471.yes c2), rfl⟩) _ W2471
            · refine Go.iconst W2471.cx d_code_165 (z := (3 : Int32)) rfl ?_
              refine Go.istore W2471.cx d_code_166 (L' := #[.val (.int i0), .val (.int i1), .val (.int i2), .val (.int (Int32.ofNat n)), .val (.int y1), .val (.int y2), .val (.int y3), .val (.int y4), .val (.ref r5), .val (.ref r6), .val (.ref a7), .val (.int (Int32.ofNat k0)), .val (.int (3 : Int32)), .unset, .unset, .unset, .unset, .unset, .unset, .unset]) rfl ?_
              exact J168 3 (Or.inl ⟨lt168.mp c1, B2471.no c2, rfl⟩) _ W2471
        refine Go.iload_n W2330.cx d_code_133 (v := (Int32.ofNat n)) rfl ?_
        have lt147 : Int32.ofNat 0 < Int32.ofNat n ↔ 0 < n := lt_nat (by omega) (by omega)
        refine Go.ifle W2330.cx d_code_134 (by decide) (q := 147) rfl (fun c1 => ?_) (fun c1 => ?_)
        · exact J147 k1 (Or.inr ⟨fun z => c1 (lt147.mpr z.1), rfl⟩) _ W2330
        · refine Go.iload W2330.cx d_code_137 (v := y1) rfl ?_
          refine Go.bipush W2330.cx d_code_139 (z := (59 : Int32)) rfl ?_
          refine Go.icne W2330.cx d_code_141 (by decide) (q := 147) rfl (fun c2 => ?_) (fun c2 => ?_)
          · exact J147 k1 (Or.inr ⟨fun z => c2 z.2, rfl⟩) _ W2330
          · refine Go.iconst W2330.cx d_code_144 (z := (0 : Int32)) rfl ?_
            refine Go.istore W2330.cx d_code_145 (L' := #[.val (.int i0), .val (.int i1), .val (.int i2), .val (.int (Int32.ofNat n)), .val (.int y1), .val (.int y2), .val (.int y3), .val (.int y4), .val (.ref r5), .val (.ref r6), .val (.ref a7), .val (.int (0 : Int32)), .unset, .unset, .unset, .unset, .unset, .unset, .unset, .unset]) rfl ?_
            exact J147 0 (Or.inl ⟨lt147.mp c1, c2, rfl⟩) _ W2330
      refine Go.iload_n W2180.cx d_code_118 (v := (Int32.ofNat n)) rfl ?_
      refine Go.iconst W2180.cx d_code_119 (z := (1 : Int32)) rfl ?_
      have lt133 : Int32.ofNat 1 < Int32.ofNat n ↔ 1 < n := lt_nat (by omega) (by omega)
      refine Go.icle W2180.cx d_code_120 (by decide) (q := 133) rfl (fun c1 => ?_) (fun c1 => ?_)
      · exact J133 k2 (Or.inr ⟨fun z => c1 (lt133.mpr z.1), rfl⟩) _ W2180
      · refine Go.iload W2180.cx d_code_123 (v := y2) rfl ?_
        refine Go.bipush W2180.cx d_code_125 (z := (59 : Int32)) rfl ?_
        refine Go.icne W2180.cx d_code_127 (by decide) (q := 133) rfl (fun c2 => ?_) (fun c2 => ?_)
        · exact J133 k2 (Or.inr ⟨fun z => c2 z.2, rfl⟩) _ W2180
        · refine Go.iconst W2180.cx d_code_130 (z := (1 : Int32)) rfl ?_
          refine Go.istore W2180.cx d_code_131 (L' := #[.val (.int i0), .val (.int i1), .val (.int i2), .val (.int (Int32.ofNat n)), .val (.int y1), .val (.int y2), .val (.int y3), .val (.int y4), .val (.ref r5), .val (.ref r6), .val (.ref a7), .val (.int (1 : Int32)), .unset, .unset, .unset, .unset, .unset, .unset, .unset, .unset]) rfl ?_
          exact J133 1 (Or.inl ⟨lt133.mp c1, c2, rfl⟩) _ W2180
    refine Go.iload_n W2030.cx d_code_103 (v := (Int32.ofNat n)) rfl ?_
    refine Go.iconst W2030.cx d_code_104 (z := (2 : Int32)) rfl ?_
    have lt118 : Int32.ofNat 2 < Int32.ofNat n ↔ 2 < n := lt_nat (by omega) (by omega)
    refine Go.icle W2030.cx d_code_105 (by decide) (q := 118) rfl (fun c1 => ?_) (fun c1 => ?_)
    · exact J118 k3 (Or.inr ⟨fun z => c1 (lt118.mpr z.1), rfl⟩) _ W2030
    · refine Go.iload W2030.cx d_code_108 (v := y3) rfl ?_
      refine Go.bipush W2030.cx d_code_110 (z := (59 : Int32)) rfl ?_
      refine Go.icne W2030.cx d_code_112 (by decide) (q := 118) rfl (fun c2 => ?_) (fun c2 => ?_)
      · exact J118 k3 (Or.inr ⟨fun z => c2 z.2, rfl⟩) _ W2030
      · refine Go.iconst W2030.cx d_code_115 (z := (2 : Int32)) rfl ?_
        refine Go.istore W2030.cx d_code_116 (L' := #[.val (.int i0), .val (.int i1), .val (.int i2), .val (.int (Int32.ofNat n)), .val (.int y1), .val (.int y2), .val (.int y3), .val (.int y4), .val (.ref r5), .val (.ref r6), .val (.ref a7), .val (.int (2 : Int32)), .unset, .unset, .unset, .unset, .unset, .unset, .unset, .unset]) rfl ?_
        exact J118 2 (Or.inl ⟨lt118.mp c1, c2, rfl⟩) _ W2030
  refine Go.iload_n W11.cx d_code_88 (v := (Int32.ofNat n)) rfl ?_
  refine Go.iconst W11.cx d_code_89 (z := (3 : Int32)) rfl ?_
  have lt103 : Int32.ofNat 3 < Int32.ofNat n ↔ 3 < n := lt_nat (by omega) (by omega)
  refine Go.icle W11.cx d_code_90 (by decide) (q := 103) rfl (fun c1 => ?_) (fun c1 => ?_)
  · exact J103 n (Or.inr ⟨fun z => c1 (lt103.mpr z.1), rfl⟩) _ W11
  · refine Go.iload W11.cx d_code_93 (v := y4) rfl ?_
    refine Go.bipush W11.cx d_code_95 (z := (59 : Int32)) rfl ?_
    refine Go.icne W11.cx d_code_97 (by decide) (q := 103) rfl (fun c2 => ?_) (fun c2 => ?_)
    · exact J103 n (Or.inr ⟨fun z => c2 z.2, rfl⟩) _ W11
    · refine Go.iconst W11.cx d_code_100 (z := (3 : Int32)) rfl ?_
      refine Go.istore W11.cx d_code_101 (L' := #[.val (.int i0), .val (.int i1), .val (.int i2), .val (.int (Int32.ofNat n)), .val (.int y1), .val (.int y2), .val (.int y3), .val (.int y4), .val (.ref r5), .val (.ref r6), .val (.ref a7), .val (.int (3 : Int32)), .unset, .unset, .unset, .unset, .unset, .unset, .unset, .unset]) rfl ?_
      exact J103 3 (Or.inl ⟨lt103.mp c1, c2, rfl⟩) _ W11
set_option maxRecDepth 65536 in
theorem tbl_at : ∀ i : Fin 256, jdkStatics_1[26 + i.val]? = some (Cond.eq (Term.elem (Term.static "java/lang/CharacterDataLatin1" "A" "[I") (Term.int (Int32.ofNat i.val))) (Term.int (TBL.getD i.val 0))) := by decide +kernel
set_option maxRecDepth 65536 in
set_option maxHeartbeats 40000000 in
theorem comes_1 {Post : Tables → Env → Array Value → State → Outcome → State → Prop} (hpost : ∀ tb e args s v u, (limb_1_1.after args s (.returned v) u = true ∧ limb_1_2.after args s (.returned v) u = true ∧ True) → ReturnedEndW s (.returned v) u (Jvm.fieldLocs frame_1_writes args s ++ Jvm.arrayLocs frame_1_arrays args s ++ Jvm.staticLocs frame_1_statics s) 48 5312 → Post tb e args s (.returned v) u) :
    ArmFor flags0 classFile x code maxLocals ret World_1 tables_1 room_1 Calls_1 rest_1 Pre_1 Post := by
  intro l hfl _ _ p e ha hc hk s m args below hf hA hF happ hP
  obtain ⟨hcalls, hrest, hpre⟩ := hP
  obtain ⟨-, -, -, hnamed, -, -, -, hat⟩ := (Spec.applies_iff hf).mp happ
  obtain ⟨hg, hn⟩ := and_e (Cond.before_iff.mp (show (Jvm.Cond.and given_1 narrow_1).before args s = true from hpre))
  obtain ⟨hcnt, hgv⟩ := and_e hg
  obtain ⟨g0, r0⟩ := and_e hgv
  obtain ⟨g1, r1⟩ := and_e r0
  obtain ⟨w0, w1, w2, rfl⟩ : ∃ w0 w1 w2 : Value, args = #[w0, w1, w2] := by
    have hs : args.size = 3 := by simpa [Cond.value, given_1] using hcnt
    obtain ⟨L⟩ := args
    match L, hs with
    | [w0, w1, w2], _ => exact ⟨w0, w1, w2, rfl⟩
  have hw := fun d (hd : d ∈ tables_1) => atoms_spec (ws := Jvm.Cond.code x code maxLocals ret :: tables_1) hat d (List.mem_cons_of_mem _ hd)
  obtain ⟨hsets, hown0⟩ := atoms_of _ (rest_1_c_eq ▸ (show rest_1_c.before _ s = true from hrest))
  have hr0 := Cond.before_iff.mp hown0
  obtain ⟨i0, e0⟩ := is_v g0
  obtain rfl : w0 = (.int i0) := Option.some.inj e0
  obtain ⟨i1, e1⟩ := is_v g1
  obtain rfl : w1 = (.int i1) := Option.some.inj e1
  obtain ⟨i2, e2⟩ := is_v r1
  obtain rfl : w2 = (.int i2) := Option.some.inj e2
  have n5 := not_v (Cond.before_iff.mp (hsets _ (List.mem_of_getElem? (i := 2) rfl)))
  obtain ⟨i11, e10⟩ := is_v (Cond.before_iff.mp (hsets _ (List.mem_of_getElem? (i := 1) rfl)))
  have S12 : Sta s s.heap "java/lang/String" "COMPACT_STRINGS" "Z" (.int i11) := Sta.start e10 (Or.inl (hsets _ (List.mem_of_getElem? (i := 0) rfl)))
  obtain ⟨v13, e14, r15⟩ := isR_v (Cond.before_iff.mp (hsets _ (List.mem_of_getElem? (i := 8) rfl)))
  have S16 : Sta s s.heap "jdk/internal/util/Preconditions" "SIOOBE_FORMATTER" "Ljava/util/function/BiFunction;" v13 := Sta.start e14 (Or.inl (hsets _ (List.mem_of_getElem? (i := 7) rfl)))
  have c17 : ¬ (i11 = (0 : Int32)) := gotF (Cond.eq_ints e10 (Term.int_eval (0))) n5
  have hG : Gl s := ⟨⟨i11, S12, c17⟩, v13, S16, r15⟩
  have hE : EW s #[.int i0, .int i1, .int i2] EL0 := EW.cons (wd hw 8 rfl) (by decide) (EW.cons (wd hw 73 rfl) (by decide) (EW.cons (wd hw 191 rfl) (by decide) (EW.cons (wd hw 192 rfl) (by decide) (EW.cons (wd hw 193 rfl) (by decide) (EW.nil)))))
  have hCH : CHv s EL0 s.vm s.heap := CHv.start hE (fun q hq => hcalls.1 q hq) (hsets _ (List.mem_of_getElem? (i := 2) rfl)) (wd hw 11 rfl) (wd hw 10 rfl)
  have q11 := Cond.before_iff.mp (hsets _ (List.mem_of_getElem? (i := 11) rfl))
  have q12 := Cond.before_iff.mp (hsets _ (List.mem_of_getElem? (i := 12) rfl))
  have q13 := Cond.before_iff.mp (hsets _ (List.mem_of_getElem? (i := 13) rfl))
  have q14 := Cond.before_iff.mp (hsets _ (List.mem_of_getElem? (i := 14) rfl))
  have q15 := Cond.before_iff.mp (hsets _ (List.mem_of_getElem? (i := 15) rfl))
  have q17 := Cond.before_iff.mp (hsets _ (List.mem_of_getElem? (i := 17) rfl))
  have q20 := Cond.before_iff.mp (hsets _ (List.mem_of_getElem? (i := 20) rfl))
  have q23 := Cond.before_iff.mp (hsets _ (List.mem_of_getElem? (i := 23) rfl))
  obtain ⟨loc, eloc⟩ := exa_v q11
  obtain ⟨bl, ebl⟩ := exa_v q12
  obtain ⟨lg, elg, Slg⟩ := str_of (cs := []) q13 q14 q15 q17 rfl (by decide) (fun c q => nomatch q) (fun i hi => absurd hi (Nat.not_lt_zero _))
  have HLo : Loc0 s loc lg := ⟨bl, Sta.start eloc (Or.inl (hsets _ (List.mem_of_getElem? (i := 10) rfl))), Exa.start eloc q11, Fld.start ((fld_at eloc).symm.trans ebl), Exa.start ebl q12, Fld.start ((fld_at ebl).symm.trans elg), Slg⟩
  obtain ⟨ins, eins⟩ := exa_v q20
  obtain ⟨DA, eDA⟩ := arr_v q23
  obtain ⟨cl, AA⟩ := Arr.start eDA q23
  have hL : Lat s := ⟨ins, DA, Sta.start eins (Or.inl (hsets _ (List.mem_of_getElem? (i := 19) rfl))), Exa.start eins q20, Sta.start eDA (Or.inl (hsets _ (List.mem_of_getElem? (i := 22) rfl))), cl, AA, fun i hi => elem_slot eDA AA.1 (by omega) (eq_int_of (Cond.before_iff.mp (hsets _ (List.mem_of_getElem? (tbl_at ⟨i, hi⟩)))))⟩
  obtain ⟨n, o, h1, h2, h3, v, L, rfl, ⟨w, rfl, rfl⟩, N, -, -, ⟨r1, r2, r3, r4⟩, hnw⟩ := c_law l s _ hw hE (Old.start s) hG hL HLo i0 i1 i2 tables_1 p e ha hc hk s m _ below hf ((Spec.applies_iff_loose hf).mp happ).1 ⟨rfl, rfl, State.Warmed39.refl s, hCH, fun _ q => nomatch q⟩ trivial
  exact ⟨n, _, h1, h2, h3, hpost _ _ _ _ _ _ ⟨Cond.after_iff.mpr rfl, Cond.after_iff.mpr (eq_i res_at (Term.int_eval (1)) rfl), trivial⟩ ⟨r1, r2, r3, (r4.sift fun y hy => Or.inr (N y hy)).mono (by decide) (by decide)⟩⟩
theorem main_1_1 : Claimed_1_1 := comes_1 fun _ _ _ _ _ _ h hF => ⟨h.1, hF⟩
theorem main_1_2 : Claimed_1_2 := comes_1 fun _ _ _ _ _ _ h hF => ⟨h.2.1, hF⟩
end Jvm.Pilot.@@N@@
namespace Jvm.Pilot.@@N@@
open Jvm Jvm.ClassFile Sem Op Lib Jvm.Free Jvm.Stand Jvm.Pilot.@@N@@.Jvm.D
/-! MADE BY PROGRAM (witnessworld.py) out of the Statement's table words and the real class files: 27 classes; the members and pool entries that the words name. The judged class is class 1, her method 1. -/
namespace start1
open Jvm.ClassFile
def u (s : String) : CpInfo := .utf8 (stringToUtf16 s)
/-- a pool by its gaps: so many unusable entries, then the entry; so many at the end -/
def gap : Nat → List CpInfo → List CpInfo
  | 0, r => r
  | n + 1, r => .unusable :: gap n r
def poolList (es : List (Nat × CpInfo)) (last : Nat) : List CpInfo := es.foldr (fun e r => gap e.1 (e.2 :: r)) (gap last [])
def pool (es : List (Nat × CpInfo)) (last : Nat) : Array CpInfo := ⟨poolList es last⟩
def fileOf (pool : Array CpInfo) (this : Nat) (attrs : Array Attribute := #[]) (ms : Array MethodInfo := #[]) (fl : Nat := 33) (sup : Nat := 0) (ifs : Array Nat := #[]) (fds : Array FieldInfo := #[]) : ClassFile where
  minorVersion := 0
  majorVersion := 65
  constantPool := pool
  accessFlags := fl
  thisClass := this
  superClass := sup
  interfaces := ifs
  fields := fds
  methods := ms
  attributes := attrs
def plain (name : String) (sup : Option ClassId) : Class where
  name := name
  kind := .ordinary
  loader := none
  accessFlags := 33
  super := sup
  interfaces := #[]
  cf := none
  fields := #[]
  methods := #[]
  instanceTypes := #[]
  staticTypes := #[]
  resolved := #[]
  callSites := []
  init := .initialized
  statics := none
  mirror := none

def pool0 : Array CpInfo := pool [(5, u "<init>"), (0, u "()V"), (1, .class_ 10), (1, u "java/lang/Object")] 113

def k0c0 : Code := { maxStack := 0, maxLocals := 1, code := object_method_1_code, exceptionTable := #[], attributes := #[] }
def k0m0 : Method := { name := "<init>", desc := "()V", sig := { parameters := [], returnType := none }, accessFlags := 1, code := some k0c0 }
/-- java/lang/Object -/
def k0 : Class := { plain "java/lang/Object" none with
  accessFlags := 33
  interfaces := #[]
  cf := some (fileOf pool0 8 #[] #[{ accessFlags := 1, nameIndex := 5, descriptorIndex := 6, attributes := #[] }] 33 0 #[] #[])
  fields := #[]
  methods := #[k0m0]
  instanceTypes := #[]
  staticTypes := #[]
  resolved := Array.replicate 124 none
  statics := none }

def pool1 : Array CpInfo := pool [(2, .class_ 4), (1, u "java/lang/Object"), (0, u "<init>"), (0, u "()V"), (0, .integer 2147483647), (0, .methodref 9 10), (0, .class_ 11), (0, .nameAndType 12 13), (0, u "com/example/tributary/tributary/MediaTypesOfPinLaw"), (0, u "pick"), (0, u "(III)C"), (0, .methodref 9 15), (0, .nameAndType 16 17), (0, u "make"), (0, u "(ICCCC)Ljava/lang/String;"), (0, .methodref 19 20), (0, .class_ 21), (0, .nameAndType 22 23), (0, u "com/example/tributary/tributary/MediaTypes"), (0, u "of"), (0, u "(Ljava/lang/String;)Ljava/lang/String;"), (0, .methodref 9 25), (0, .nameAndType 26 27), (0, u "ws"), (0, u "(C)Z"), (0, .methodref 9 29), (0, .nameAndType 30 31), (0, u "lower"), (0, u "(C)C"), (0, .methodref 33 34), (0, .class_ 35), (0, .nameAndType 36 37), (0, u "java/lang/String"), (0, u "equals"), (0, u "(Ljava/lang/Object;)Z"), (0, .string 39), (0, u ""), (0, .methodref 33 41), (0, .nameAndType 5 42), (0, u "([C)V"), (2, u "law"), (0, u "(III)Z")] 5

def k1m0 : Method := { name := "<init>", desc := "()V", sig := { parameters := [], returnType := none }, accessFlags := 1, code := none }
def k1c1 : Code := { maxStack := 5, maxLocals := 20, code := code, exceptionTable := #[], attributes := #[] }
def k1m1 : Method := { name := "law", desc := "(III)Z", sig := { parameters := [.int, .int, .int], returnType := some .boolean }, accessFlags := 9, code := some k1c1 }
def k1c2 : Code := { maxStack := 3, maxLocals := 4, code := method_3_code, exceptionTable := #[], attributes := #[] }
def k1m2 : Method := { name := "pick", desc := "(III)C", sig := { parameters := [.int, .int, .int], returnType := some .char }, accessFlags := 10, code := some k1c2 }
def k1c3 : Code := { maxStack := 2, maxLocals := 1, code := method_4_code, exceptionTable := #[], attributes := #[] }
def k1m3 : Method := { name := "ws", desc := "(C)Z", sig := { parameters := [.char], returnType := some .boolean }, accessFlags := 10, code := some k1c3 }
def k1c4 : Code := { maxStack := 2, maxLocals := 1, code := method_5_code, exceptionTable := #[], attributes := #[] }
def k1m4 : Method := { name := "lower", desc := "(C)C", sig := { parameters := [.char], returnType := some .char }, accessFlags := 10, code := some k1c4 }
def k1c5 : Code := { maxStack := 6, maxLocals := 5, code := method_6_code, exceptionTable := #[], attributes := #[] }
def k1m5 : Method := { name := "make", desc := "(ICCCC)Ljava/lang/String;", sig := { parameters := [.int, .char, .char, .char, .char], returnType := some (.object "java/lang/String") }, accessFlags := 10, code := some k1c5 }
/-- com/example/tributary/tributary/MediaTypesOfPinLaw -/
def k1 : Class := { plain "com/example/tributary/tributary/MediaTypesOfPinLaw" (some 0) with
  accessFlags := 49
  interfaces := #[]
  cf := some (fileOf pool1 9 #[] #[{ accessFlags := 1, nameIndex := 5, descriptorIndex := 6, attributes := #[] }, { accessFlags := 9, nameIndex := 45, descriptorIndex := 46, attributes := #[] }, { accessFlags := 10, nameIndex := 12, descriptorIndex := 13, attributes := #[] }, { accessFlags := 10, nameIndex := 26, descriptorIndex := 27, attributes := #[] }, { accessFlags := 10, nameIndex := 30, descriptorIndex := 31, attributes := #[] }, { accessFlags := 10, nameIndex := 16, descriptorIndex := 17, attributes := #[] }] 49 2 #[] #[])
  fields := #[]
  methods := #[k1m0, k1m1, k1m2, k1m3, k1m4, k1m5]
  instanceTypes := #[]
  staticTypes := #[]
  resolved := Array.replicate 52 none
  statics := none }

def pool2 : Array CpInfo := pool [(1, .class_ 2), (0, u "java/io/Serializable"), (0, .class_ 4), (0, u "java/lang/Object")] 2

/-- java/io/Serializable -/
def k2 : Class := { plain "java/io/Serializable" (some 0) with
  accessFlags := 1537
  interfaces := #[]
  cf := some (fileOf pool2 1 #[] #[] 1537 3 #[] #[])
  fields := #[]
  methods := #[]
  instanceTypes := #[]
  staticTypes := #[]
  resolved := Array.replicate 7 none
  statics := none }

def pool3 : Array CpInfo := pool [(1, .class_ 2), (0, u "java/lang/Comparable"), (0, .class_ 4), (0, u "java/lang/Object")] 7

/-- java/lang/Comparable -/
def k3 : Class := { plain "java/lang/Comparable" (some 0) with
  accessFlags := 1537
  interfaces := #[]
  cf := some (fileOf pool3 1 #[] #[] 1537 3 #[] #[])
  fields := #[]
  methods := #[]
  instanceTypes := #[]
  staticTypes := #[]
  resolved := Array.replicate 12 none
  statics := none }

def pool4 : Array CpInfo := pool [(2, .class_ 4), (1, u "java/lang/CharSequence"), (42, .class_ 48), (0, u "java/lang/CharSequence$1CodePointIterator"), (10, .class_ 60), (0, u "java/lang/CharSequence$1CharIterator"), (5, .class_ 67), (0, u "java/lang/Object")] 63

/-- java/lang/CharSequence -/
def k4 : Class := { plain "java/lang/CharSequence" (some 0) with
  accessFlags := 1537
  interfaces := #[]
  cf := some (fileOf pool4 2 #[.nestMembers #[47, 59]] #[] 1537 66 #[] #[])
  fields := #[]
  methods := #[]
  instanceTypes := #[]
  staticTypes := #[]
  resolved := Array.replicate 131 none
  statics := none }

def pool5 : Array CpInfo := pool [(1, .class_ 2), (0, u "java/lang/constant/Constable"), (0, .class_ 4), (0, u "java/lang/Object")] 6

/-- java/lang/constant/Constable -/
def k5 : Class := { plain "java/lang/constant/Constable" (some 0) with
  accessFlags := 1537
  interfaces := #[]
  cf := some (fileOf pool5 1 #[] #[] 1537 3 #[] #[])
  fields := #[]
  methods := #[]
  instanceTypes := #[]
  staticTypes := #[]
  resolved := Array.replicate 11 none
  statics := none }

def pool6 : Array CpInfo := pool [(1, .class_ 2), (0, u "java/lang/constant/ConstantDesc"), (0, .class_ 4), (0, u "java/lang/Object")] 32

/-- java/lang/constant/ConstantDesc -/
def k6 : Class := { plain "java/lang/constant/ConstantDesc" (some 0) with
  accessFlags := 1537
  interfaces := #[]
  cf := some (fileOf pool6 1 #[] #[] 1537 3 #[] #[])
  fields := #[]
  methods := #[]
  instanceTypes := #[]
  staticTypes := #[]
  resolved := Array.replicate 37 none
  statics := none }

def pool7 : Array CpInfo := pool [(1, .methodref 2 3), (0, .class_ 4), (0, .nameAndType 5 6), (0, u "java/lang/Object"), (0, u "<init>"), (0, u "()V"), (2, .fieldref 10 11), (0, .class_ 12), (0, .nameAndType 13 14), (0, u "java/lang/String"), (0, u "value"), (0, u "[B"), (0, .fieldref 10 16), (0, .nameAndType 17 18), (0, u "coder"), (0, u "B"), (2, u "hash"), (0, u "I"), (2, u "hashIsZero"), (0, u "Z"), (0, .methodref 10 28), (0, .nameAndType 5 29), (0, u "([CIILjava/lang/Void;)V"), (8, .fieldref 10 39), (0, .nameAndType 40 26), (0, u "COMPACT_STRINGS"), (1, .class_ 44), (1, u "java/lang/StringUTF16"), (0, u "compress"), (1, .methodref 42 48), (0, .nameAndType 49 50), (0, u "coderFromArrayLen"), (0, u "([BI)B"), (56, .class_ 109), (1, u "java/lang/StringLatin1"), (32, u "()Z"), (34, .methodref 42 178), (0, .nameAndType 45 179), (0, u "([CII)[B"), (31, u "([BB)V"), (122, u "()I"), (0, .methodref 10 336), (0, .nameAndType 17 337), (0, u "()B"), (126, u "()Ljava/lang/String;"), (27, .methodref 10 493), (0, .nameAndType 494 142), (0, u "isLatin1"), (10, .methodref 10 506), (0, .nameAndType 507 334), (0, u "length"), (5, u "checkFromToIndex"), (7, .methodref 10 522), (0, .nameAndType 523 524), (0, u "checkBoundsBeginEnd"), (0, u "(III)V"), (16, .methodref 107 542), (0, .nameAndType 543 544), (0, u "equals"), (0, u "([B[B)Z"), (28, u "(Ljava/lang/Object;)Z"), (1, .class_ 576), (0, u "java/lang/CharSequence"), (22, u "CASE_INSENSITIVE_ORDER"), (0, u "Ljava/util/Comparator;"), (32, .methodref 10 634), (0, .nameAndType 635 636), (0, u "indexOf"), (0, u "(II)I"), (0, .methodref 107 638), (0, .nameAndType 635 639), (0, u "([BIII)I"), (43, u "substring"), (0, u "(II)Ljava/lang/String;"), (0, .methodref 107 686), (0, .nameAndType 687 688), (0, u "newString"), (0, u "([BII)Ljava/lang/String;"), (76, u "(I)I"), (73, .methodref 107 840), (0, .nameAndType 841 842), (0, u "toLowerCase"), (0, u "(Ljava/lang/String;[BLjava/util/Locale;)Ljava/lang/String;"), (9, u "(Ljava/util/Locale;)Ljava/lang/String;"), (9, u "([B)Ljava/lang/String;"), (1, .methodref 107 865), (0, .nameAndType 866 862), (0, u "strip"), (143, u "([C)V"), (42, .fieldref 1054 1055), (0, .class_ 1056), (0, .nameAndType 1057 1058), (0, u "jdk/internal/util/Preconditions"), (0, u "SIOOBE_FORMATTER"), (0, u "Ljava/util/function/BiFunction;"), (3, .methodref 1054 1063), (0, .nameAndType 513 1064), (0, u "(IIILjava/util/function/BiFunction;)I"), (36, u "serialPersistentFields"), (0, u "[Ljava/io/ObjectStreamField;"), (0, .class_ 1104), (0, u "java/lang/String$CaseInsensitiveComparator"), (1, .class_ 1107), (0, u "java/io/Serializable"), (0, .class_ 1109), (0, u "java/lang/Comparable"), (0, .class_ 1111), (0, u "java/lang/constant/Constable"), (0, .class_ 1113), (0, u "java/lang/constant/ConstantDesc"), (2, u "serialVersionUID"), (0, u "J"), (3, u "REPL"), (0, u "C"), (2, u "LATIN1"), (1, u "UTF16")] 323

def k7m0 : Method := { name := "<init>", desc := "()V", sig := { parameters := [], returnType := none }, accessFlags := 1, code := none }
def k7c1 : Code := { maxStack := 5, maxLocals := 2, code := jdk_42_method_3_code, exceptionTable := #[], attributes := #[] }
def k7m1 : Method := { name := "<init>", desc := "([C)V", sig := { parameters := [(.array .char)], returnType := none }, accessFlags := 1, code := some k7c1 }
def k7c2 : Code := { maxStack := 2, maxLocals := 1, code := jdk_42_method_54_code, exceptionTable := #[], attributes := #[] }
def k7m2 : Method := { name := "length", desc := "()I", sig := { parameters := [], returnType := some .int }, accessFlags := 1, code := some k7c2 }
def k7c3 : Code := { maxStack := 2, maxLocals := 3, code := jdk_42_method_66_code, exceptionTable := #[], attributes := #[] }
def k7m3 : Method := { name := "equals", desc := "(Ljava/lang/Object;)Z", sig := { parameters := [(.object "java/lang/Object")], returnType := some .boolean }, accessFlags := 1, code := some k7c3 }
def k7c4 : Code := { maxStack := 3, maxLocals := 2, code := jdk_42_method_79_code, exceptionTable := #[], attributes := #[] }
def k7m4 : Method := { name := "indexOf", desc := "(I)I", sig := { parameters := [.int], returnType := some .int }, accessFlags := 1, code := some k7c4 }
def k7c5 : Code := { maxStack := 4, maxLocals := 3, code := jdk_42_method_80_code, exceptionTable := #[], attributes := #[] }
def k7m5 : Method := { name := "indexOf", desc := "(II)I", sig := { parameters := [.int, .int], returnType := some .int }, accessFlags := 1, code := some k7c5 }
def k7c6 : Code := { maxStack := 3, maxLocals := 5, code := jdk_42_method_92_code, exceptionTable := #[], attributes := #[] }
def k7m6 : Method := { name := "substring", desc := "(II)Ljava/lang/String;", sig := { parameters := [.int, .int], returnType := some (.object "java/lang/String") }, accessFlags := 1, code := some k7c6 }
def k7c7 : Code := { maxStack := 3, maxLocals := 2, code := jdk_42_method_109_code, exceptionTable := #[], attributes := #[] }
def k7m7 : Method := { name := "toLowerCase", desc := "(Ljava/util/Locale;)Ljava/lang/String;", sig := { parameters := [(.object "java/util/Locale")], returnType := some (.object "java/lang/String") }, accessFlags := 1, code := some k7c7 }
def k7c8 : Code := { maxStack := 1, maxLocals := 2, code := jdk_42_method_114_code, exceptionTable := #[], attributes := #[] }
def k7m8 : Method := { name := "strip", desc := "()Ljava/lang/String;", sig := { parameters := [], returnType := some (.object "java/lang/String") }, accessFlags := 1, code := some k7c8 }
def k7c9 : Code := { maxStack := 4, maxLocals := 6, code := jdk_42_method_149_code, exceptionTable := #[], attributes := #[] }
def k7m9 : Method := { name := "<init>", desc := "([CIILjava/lang/Void;)V", sig := { parameters := [(.array .char), .int, .int, (.object "java/lang/Void")], returnType := none }, accessFlags := 2, code := some k7c9 }
def k7c10 : Code := { maxStack := 2, maxLocals := 3, code := jdk_42_method_151_code, exceptionTable := #[], attributes := #[] }
def k7m10 : Method := { name := "<init>", desc := "([BB)V", sig := { parameters := [(.array .byte), .byte], returnType := none }, accessFlags := 0, code := some k7c10 }
def k7c11 : Code := { maxStack := 1, maxLocals := 1, code := jdk_42_method_152_code, exceptionTable := #[], attributes := #[] }
def k7m11 : Method := { name := "coder", desc := "()B", sig := { parameters := [], returnType := some .byte }, accessFlags := 0, code := some k7c11 }
def k7c12 : Code := { maxStack := 1, maxLocals := 1, code := jdk_42_method_154_code, exceptionTable := #[], attributes := #[] }
def k7m12 : Method := { name := "isLatin1", desc := "()Z", sig := { parameters := [], returnType := some .boolean }, accessFlags := 0, code := some k7c12 }
def k7c13 : Code := { maxStack := 4, maxLocals := 3, code := jdk_42_method_158_code, exceptionTable := #[], attributes := #[] }
def k7m13 : Method := { name := "checkBoundsBeginEnd", desc := "(III)V", sig := { parameters := [.int, .int, .int], returnType := none }, accessFlags := 8, code := some k7c13 }
/-- java/lang/String -/
def k7 : Class := { plain "java/lang/String" (some 0) with
  accessFlags := 49
  interfaces := #[2, 3, 4, 5, 6]
  cf := some (fileOf pool7 10 #[.nestMembers #[1103]] #[{ accessFlags := 1, nameIndex := 5, descriptorIndex := 6, attributes := #[] }, { accessFlags := 1, nameIndex := 5, descriptorIndex := 1010, attributes := #[] }, { accessFlags := 1, nameIndex := 507, descriptorIndex := 334, attributes := #[] }, { accessFlags := 1, nameIndex := 543, descriptorIndex := 573, attributes := #[] }, { accessFlags := 1, nameIndex := 635, descriptorIndex := 765, attributes := #[] }, { accessFlags := 1, nameIndex := 635, descriptorIndex := 636, attributes := #[] }, { accessFlags := 1, nameIndex := 683, descriptorIndex := 684, attributes := #[] }, { accessFlags := 1, nameIndex := 841, descriptorIndex := 852, attributes := #[] }, { accessFlags := 1, nameIndex := 866, descriptorIndex := 464, attributes := #[] }, { accessFlags := 2, nameIndex := 5, descriptorIndex := 29, attributes := #[] }, { accessFlags := 0, nameIndex := 5, descriptorIndex := 211, attributes := #[] }, { accessFlags := 0, nameIndex := 17, descriptorIndex := 337, attributes := #[] }, { accessFlags := 0, nameIndex := 494, descriptorIndex := 142, attributes := #[] }, { accessFlags := 8, nameIndex := 523, descriptorIndex := 524, attributes := #[] }] 49 2 #[1106, 1108, 575, 1110, 1112] #[{ accessFlags := 18, nameIndex := 13, descriptorIndex := 14, attributes := #[] }, { accessFlags := 18, nameIndex := 17, descriptorIndex := 18, attributes := #[] }, { accessFlags := 2, nameIndex := 21, descriptorIndex := 22, attributes := #[] }, { accessFlags := 2, nameIndex := 25, descriptorIndex := 26, attributes := #[] }, { accessFlags := 26, nameIndex := 1116, descriptorIndex := 1117, attributes := #[] }, { accessFlags := 24, nameIndex := 40, descriptorIndex := 26, attributes := #[] }, { accessFlags := 26, nameIndex := 1101, descriptorIndex := 1102, attributes := #[] }, { accessFlags := 26, nameIndex := 1121, descriptorIndex := 1122, attributes := #[] }, { accessFlags := 25, nameIndex := 599, descriptorIndex := 600, attributes := #[] }, { accessFlags := 24, nameIndex := 1125, descriptorIndex := 18, attributes := #[] }, { accessFlags := 24, nameIndex := 1127, descriptorIndex := 18, attributes := #[] }])
  fields := #[{ name := "value", type := (.array .byte), accessFlags := 18, slot := 0, constantValue := 0 }, { name := "coder", type := .byte, accessFlags := 18, slot := 1, constantValue := 0 }, { name := "hash", type := .int, accessFlags := 2, slot := 2, constantValue := 0 }, { name := "hashIsZero", type := .boolean, accessFlags := 2, slot := 3, constantValue := 0 }, { name := "serialVersionUID", type := .long, accessFlags := 26, slot := 0, constantValue := 0 }, { name := "COMPACT_STRINGS", type := .boolean, accessFlags := 24, slot := 1, constantValue := 0 }, { name := "serialPersistentFields", type := (.array (.object "java/io/ObjectStreamField")), accessFlags := 26, slot := 2, constantValue := 0 }, { name := "REPL", type := .char, accessFlags := 26, slot := 3, constantValue := 0 }, { name := "CASE_INSENSITIVE_ORDER", type := (.object "java/util/Comparator"), accessFlags := 25, slot := 4, constantValue := 0 }, { name := "LATIN1", type := .byte, accessFlags := 24, slot := 5, constantValue := 0 }, { name := "UTF16", type := .byte, accessFlags := 24, slot := 6, constantValue := 0 }]
  methods := #[k7m0, k7m1, k7m2, k7m3, k7m4, k7m5, k7m6, k7m7, k7m8, k7m9, k7m10, k7m11, k7m12, k7m13]
  instanceTypes := #[(.array .byte), .byte, .int, .boolean]
  staticTypes := #[.long, .boolean, (.array (.object "java/io/ObjectStreamField")), .char, (.object "java/util/Comparator"), .byte, .byte]
  resolved := Array.replicate 1451 none
  statics := some 0 }

def pool8 : Array CpInfo := pool [(2, .class_ 4), (1, u "java/lang/Object"), (0, u "<init>"), (0, u "()V"), (0, .methodref 8 9), (0, .class_ 10), (0, .nameAndType 11 12), (0, u "java/lang/String"), (0, u "indexOf"), (0, u "(I)I"), (0, .methodref 8 14), (0, .nameAndType 15 16), (0, u "substring"), (0, u "(II)Ljava/lang/String;"), (0, .methodref 8 18), (0, .nameAndType 19 20), (0, u "strip"), (0, u "()Ljava/lang/String;"), (0, .fieldref 22 23), (0, .class_ 24), (0, .nameAndType 25 26), (0, u "java/util/Locale"), (0, u "ROOT"), (0, u "Ljava/util/Locale;"), (0, .methodref 8 28), (0, .nameAndType 29 30), (0, u "toLowerCase"), (0, u "(Ljava/util/Locale;)Ljava/lang/String;"), (0, .class_ 32), (0, u "com/example/tributary/tributary/MediaTypes"), (0, u "FORM"), (0, u "Ljava/lang/String;"), (5, u "of"), (0, u "(Ljava/lang/String;)Ljava/lang/String;")] 3

def k8m0 : Method := { name := "<init>", desc := "()V", sig := { parameters := [], returnType := none }, accessFlags := 2, code := none }
def k8c1 : Code := { maxStack := 3, maxLocals := 2, code := prog_4_method_2_code, exceptionTable := #[], attributes := #[] }
def k8m1 : Method := { name := "of", desc := "(Ljava/lang/String;)Ljava/lang/String;", sig := { parameters := [(.object "java/lang/String")], returnType := some (.object "java/lang/String") }, accessFlags := 8, code := some k8c1 }
/-- com/example/tributary/tributary/MediaTypes -/
def k8 : Class := { plain "com/example/tributary/tributary/MediaTypes" (some 0) with
  accessFlags := 48
  interfaces := #[]
  cf := some (fileOf pool8 31 #[] #[{ accessFlags := 2, nameIndex := 5, descriptorIndex := 6, attributes := #[] }, { accessFlags := 8, nameIndex := 40, descriptorIndex := 41, attributes := #[] }] 48 2 #[] #[{ accessFlags := 24, nameIndex := 33, descriptorIndex := 34, attributes := #[] }])
  fields := #[{ name := "FORM", type := (.object "java/lang/String"), accessFlags := 24, slot := 0, constantValue := 0 }]
  methods := #[k8m0, k8m1]
  instanceTypes := #[]
  staticTypes := #[(.object "java/lang/String")]
  resolved := Array.replicate 45 none
  statics := none }

def pool9 : Array CpInfo := pool [(1, .class_ 2), (0, u "java/lang/String"), (1, .class_ 6), (1, u "java/lang/Object"), (0, u "<init>"), (0, u "()V"), (5, .class_ 16), (1, u "java/lang/StringLatin1"), (11, .methodref 29 30), (0, .class_ 31), (0, .nameAndType 32 33), (0, u "java/lang/System"), (0, u "arraycopy"), (0, u "(Ljava/lang/Object;ILjava/lang/Object;II)V"), (4, .methodref 39 40), (0, .class_ 41), (0, .nameAndType 42 43), (0, u "java/lang/Math"), (0, u "min"), (0, u "(II)I"), (6, .methodref 14 51), (0, .nameAndType 52 53), (0, u "getChar"), (0, u "([BI)C"), (3, u "([B)I"), (8, .fieldref 67 68), (0, .class_ 69), (0, .nameAndType 70 71), (0, u "java/lang/CharacterDataLatin1"), (0, u "instance"), (0, u "Ljava/lang/CharacterDataLatin1;"), (3, u "(I)I"), (4, u "toLowerCase"), (7, .methodref 14 89), (0, .nameAndType 90 91), (0, u "canEncode"), (0, u "(I)Z"), (0, .methodref 39 93), (0, .nameAndType 94 43), (0, u "max"), (0, .methodref 14 96), (0, .nameAndType 97 98), (0, u "indexOfChar"), (0, u "([BIII)I"), (2, u "indexOf"), (10, .methodref 1 113), (0, .nameAndType 7 114), (0, u "([BB)V"), (6, u "$assertionsDisabled"), (0, u "Z"), (8, .class_ 133), (1, u "java/util/Arrays"), (17, .string 152), (0, u ""), (7, .methodref 67 161), (0, .nameAndType 80 75), (0, .methodref 163 164), (0, .class_ 165), (0, .nameAndType 166 167), (0, u "java/util/Locale"), (0, u "getLanguage"), (0, u "()Ljava/lang/String;"), (0, .string 169), (0, u "tr"), (0, .string 171), (0, u "az"), (0, .string 173), (0, u "lt"), (21, .nameAndType 196 197), (0, u "newString"), (0, u "([BII)Ljava/lang/String;"), (12, .methodref 14 195), (0, .methodref 67 212), (0, .nameAndType 213 91), (0, u "isWhitespace"), (0, .methodref 14 215), (0, .nameAndType 216 57), (0, u "indexOfNonWhitespace"), (0, .methodref 14 218), (0, .nameAndType 219 57), (0, u "lastIndexOfNonWhitespace"), (1, .class_ 223), (1, u "java/lang/StringLatin1$LinesSpliterator"), (8, .methodref 131 233), (0, .nameAndType 234 235), (0, u "copyOfRange"), (0, u "([BII)[B"), (45, u "equals"), (0, u "([B[B)Z"), (67, u "(Ljava/lang/String;[BLjava/util/Locale;)Ljava/lang/String;"), (16, u "([B)Ljava/lang/String;"), (3, u "strip"), (18, .class_ 391), (0, u "java/lang/StringLatin1$CharsSpliterator")] 3

def k9m0 : Method := { name := "<init>", desc := "()V", sig := { parameters := [], returnType := none }, accessFlags := 0, code := none }
def k9c1 : Code := { maxStack := 2, maxLocals := 1, code := jdk_43_method_4_code, exceptionTable := #[], attributes := #[] }
def k9m1 : Method := { name := "canEncode", desc := "(I)Z", sig := { parameters := [.int], returnType := some .boolean }, accessFlags := 9, code := some k9c1 }
def k9c2 : Code := { maxStack := 3, maxLocals := 3, code := jdk_43_method_13_code, exceptionTable := #[], attributes := #[] }
def k9m2 : Method := { name := "equals", desc := "([B[B)Z", sig := { parameters := [(.array .byte), (.array .byte)], returnType := some .boolean }, accessFlags := 9, code := some k9c2 }
def k9c3 : Code := { maxStack := 4, maxLocals := 4, code := jdk_43_method_22_code, exceptionTable := #[], attributes := #[] }
def k9m3 : Method := { name := "indexOf", desc := "([BIII)I", sig := { parameters := [(.array .byte), .int, .int, .int], returnType := some .int }, accessFlags := 9, code := some k9c3 }
def k9c4 : Code := { maxStack := 2, maxLocals := 6, code := jdk_43_method_23_code, exceptionTable := #[], attributes := #[] }
def k9m4 : Method := { name := "indexOfChar", desc := "([BIII)I", sig := { parameters := [(.array .byte), .int, .int, .int], returnType := some .int }, accessFlags := 10, code := some k9c4 }
def k9c5 : Code := { maxStack := 5, maxLocals := 9, code := jdk_43_method_32_code, exceptionTable := #[], attributes := #[] }
def k9m5 : Method := { name := "toLowerCase", desc := "(Ljava/lang/String;[BLjava/util/Locale;)Ljava/lang/String;", sig := { parameters := [(.object "java/lang/String"), (.array .byte), (.object "java/util/Locale")], returnType := some (.object "java/lang/String") }, accessFlags := 9, code := some k9c5 }
def k9c6 : Code := { maxStack := 2, maxLocals := 4, code := jdk_43_method_37_code, exceptionTable := #[], attributes := #[] }
def k9m6 : Method := { name := "indexOfNonWhitespace", desc := "([B)I", sig := { parameters := [(.array .byte)], returnType := some .int }, accessFlags := 9, code := some k9c6 }
def k9c7 : Code := { maxStack := 3, maxLocals := 4, code := jdk_43_method_38_code, exceptionTable := #[], attributes := #[] }
def k9m7 : Method := { name := "lastIndexOfNonWhitespace", desc := "([B)I", sig := { parameters := [(.array .byte)], returnType := some .int }, accessFlags := 9, code := some k9c7 }
def k9c8 : Code := { maxStack := 4, maxLocals := 4, code := jdk_43_method_39_code, exceptionTable := #[], attributes := #[] }
def k9m8 : Method := { name := "strip", desc := "([B)Ljava/lang/String;", sig := { parameters := [(.array .byte)], returnType := some (.object "java/lang/String") }, accessFlags := 9, code := some k9c8 }
def k9c9 : Code := { maxStack := 2, maxLocals := 2, code := jdk_43_method_44_code, exceptionTable := #[], attributes := #[] }
def k9m9 : Method := { name := "getChar", desc := "([BI)C", sig := { parameters := [(.array .byte), .int], returnType := some .char }, accessFlags := 9, code := some k9c9 }
def k9c10 : Code := { maxStack := 6, maxLocals := 3, code := jdk_43_method_47_code, exceptionTable := #[], attributes := #[] }
def k9m10 : Method := { name := "newString", desc := "([BII)Ljava/lang/String;", sig := { parameters := [(.array .byte), .int, .int], returnType := some (.object "java/lang/String") }, accessFlags := 9, code := some k9c10 }
/-- java/lang/StringLatin1 -/
def k9 : Class := { plain "java/lang/StringLatin1" (some 0) with
  accessFlags := 48
  interfaces := #[]
  cf := some (fileOf pool9 14 #[.nestMembers #[390, 221]] #[{ accessFlags := 0, nameIndex := 7, descriptorIndex := 8, attributes := #[] }, { accessFlags := 9, nameIndex := 90, descriptorIndex := 91, attributes := #[] }, { accessFlags := 9, nameIndex := 281, descriptorIndex := 282, attributes := #[] }, { accessFlags := 9, nameIndex := 101, descriptorIndex := 98, attributes := #[] }, { accessFlags := 10, nameIndex := 97, descriptorIndex := 98, attributes := #[] }, { accessFlags := 9, nameIndex := 80, descriptorIndex := 350, attributes := #[] }, { accessFlags := 9, nameIndex := 216, descriptorIndex := 57, attributes := #[] }, { accessFlags := 9, nameIndex := 219, descriptorIndex := 57, attributes := #[] }, { accessFlags := 9, nameIndex := 371, descriptorIndex := 367, attributes := #[] }, { accessFlags := 9, nameIndex := 52, descriptorIndex := 53, attributes := #[] }, { accessFlags := 9, nameIndex := 196, descriptorIndex := 197, attributes := #[] }] 48 4 #[] #[{ accessFlags := 4120, nameIndex := 121, descriptorIndex := 122, attributes := #[] }])
  fields := #[{ name := "$assertionsDisabled", type := .boolean, accessFlags := 4120, slot := 0, constantValue := 0 }]
  methods := #[k9m0, k9m1, k9m2, k9m3, k9m4, k9m5, k9m6, k9m7, k9m8, k9m9, k9m10]
  instanceTypes := #[]
  staticTypes := #[.boolean]
  resolved := Array.replicate 395 none
  statics := none }

def pool10 : Array CpInfo := pool [(1, .class_ 2), (0, u "java/lang/Math"), (1, .class_ 6), (1, u "java/lang/Object"), (0, u "<init>"), (0, u "()V"), (89, .class_ 100), (1, u "java/lang/Math$RandomNumberGeneratorHolder"), (71, u "negativeZeroFloatBits"), (0, u "J"), (2, u "negativeZeroDoubleBits"), (21, u "max"), (2, u "min"), (43, u "$assertionsDisabled"), (0, u "Z"), (88, u "(II)I"), (2, u "twoToTheDoubleScaleDown"), (0, u "D"), (4, u "twoToTheDoubleScaleUp"), (9, u "E"), (3, u "PI"), (2, u "TAU"), (2, u "DEGREES_TO_RADIANS"), (0, u "RADIANS_TO_DEGREES")] 94

def k10m0 : Method := { name := "<init>", desc := "()V", sig := { parameters := [], returnType := none }, accessFlags := 2, code := none }
def k10c1 : Code := { maxStack := 2, maxLocals := 2, code := jdk_29_method_65_code, exceptionTable := #[], attributes := #[] }
def k10m1 : Method := { name := "max", desc := "(II)I", sig := { parameters := [.int, .int], returnType := some .int }, accessFlags := 9, code := some k10c1 }
def k10c2 : Code := { maxStack := 2, maxLocals := 2, code := jdk_29_method_69_code, exceptionTable := #[], attributes := #[] }
def k10m2 : Method := { name := "min", desc := "(II)I", sig := { parameters := [.int, .int], returnType := some .int }, accessFlags := 9, code := some k10c2 }
/-- java/lang/Math -/
def k10 : Class := { plain "java/lang/Math" (some 0) with
  accessFlags := 49
  interfaces := #[]
  cf := some (fileOf pool10 1 #[.nestMembers #[98]] #[{ accessFlags := 2, nameIndex := 7, descriptorIndex := 8, attributes := #[] }, { accessFlags := 9, nameIndex := 198, descriptorIndex := 335, attributes := #[] }, { accessFlags := 9, nameIndex := 201, descriptorIndex := 335, attributes := #[] }] 49 4 #[] #[{ accessFlags := 25, nameIndex := 354, descriptorIndex := 339, attributes := #[] }, { accessFlags := 25, nameIndex := 358, descriptorIndex := 339, attributes := #[] }, { accessFlags := 25, nameIndex := 361, descriptorIndex := 339, attributes := #[] }, { accessFlags := 26, nameIndex := 364, descriptorIndex := 339, attributes := #[] }, { accessFlags := 26, nameIndex := 365, descriptorIndex := 339, attributes := #[] }, { accessFlags := 26, nameIndex := 172, descriptorIndex := 173, attributes := #[] }, { accessFlags := 26, nameIndex := 176, descriptorIndex := 173, attributes := #[] }, { accessFlags := 8, nameIndex := 344, descriptorIndex := 339, attributes := #[] }, { accessFlags := 8, nameIndex := 338, descriptorIndex := 339, attributes := #[] }, { accessFlags := 4120, nameIndex := 245, descriptorIndex := 246, attributes := #[] }])
  fields := #[{ name := "E", type := .double, accessFlags := 25, slot := 0, constantValue := 0 }, { name := "PI", type := .double, accessFlags := 25, slot := 1, constantValue := 0 }, { name := "TAU", type := .double, accessFlags := 25, slot := 2, constantValue := 0 }, { name := "DEGREES_TO_RADIANS", type := .double, accessFlags := 26, slot := 3, constantValue := 0 }, { name := "RADIANS_TO_DEGREES", type := .double, accessFlags := 26, slot := 4, constantValue := 0 }, { name := "negativeZeroFloatBits", type := .long, accessFlags := 26, slot := 5, constantValue := 0 }, { name := "negativeZeroDoubleBits", type := .long, accessFlags := 26, slot := 6, constantValue := 0 }, { name := "twoToTheDoubleScaleUp", type := .double, accessFlags := 8, slot := 7, constantValue := 0 }, { name := "twoToTheDoubleScaleDown", type := .double, accessFlags := 8, slot := 8, constantValue := 0 }, { name := "$assertionsDisabled", type := .boolean, accessFlags := 4120, slot := 9, constantValue := 0 }]
  methods := #[k10m0, k10m1, k10m2]
  instanceTypes := #[]
  staticTypes := #[.double, .double, .double, .double, .double, .long, .long, .double, .double, .boolean]
  resolved := Array.replicate 460 none
  statics := none }

def pool11 : Array CpInfo := pool [(1, .class_ 2), (0, u "java/lang/Cloneable"), (0, .class_ 4), (0, u "java/lang/Object")] 2

/-- java/lang/Cloneable -/
def k11 : Class := { plain "java/lang/Cloneable" (some 0) with
  accessFlags := 1537
  interfaces := #[]
  cf := some (fileOf pool11 1 #[] #[] 1537 3 #[] #[])
  fields := #[]
  methods := #[]
  instanceTypes := #[]
  staticTypes := #[]
  resolved := Array.replicate 7 none
  statics := none }

def pool12 : Array CpInfo := pool [(2, .class_ 4), (1, u "sun/util/locale/BaseLocale"), (2, .class_ 8), (0, u "java/util/Locale"), (6, u "CONSTANT_LOCALES"), (0, u "Ljava/util/Map;"), (7, .class_ 26), (1, u "java/lang/Object"), (1, .fieldref 7 29), (0, .nameAndType 30 31), (0, u "baseLocale"), (0, u "Lsun/util/locale/BaseLocale;"), (2, u "localeExtensions"), (0, u "Lsun/util/locale/LocaleExtensions;"), (31, .class_ 69), (1, u "java/util/Locale$Cache"), (3, .class_ 74), (0, u "java/util/Locale$LocaleKey"), (3, u "defaultLocale"), (0, u "Ljava/util/Locale;"), (6, .class_ 88), (1, u "java/util/Locale$Category"), (4, u "defaultDisplayLocale"), (6, u "$assertionsDisabled"), (0, u "Z"), (12, u "defaultFormatLocale"), (12, u "Ljava/lang/String;"), (131, u "isoCountries"), (0, u "[Ljava/lang/String;"), (15, .class_ 278), (1, u "java/util/Locale$IsoCountryCode"), (4, u "isoLanguages"), (9, .methodref 2 294), (0, .nameAndType 295 296), (0, u "getLanguage"), (0, u "()Ljava/lang/String;"), (78, u "languageTag"), (114, .class_ 492), (1, u "java/util/Locale$LocaleNameGetter"), (125, u "hashCodeValue"), (0, u "I"), (29, u "ROOT"), (129, .class_ 781), (1, u "java/util/Locale$FilteringMode"), (39, u "ENGLISH"), (2, u "FRENCH"), (2, u "GERMAN"), (2, u "ITALIAN"), (2, u "JAPANESE"), (2, u "KOREAN"), (2, u "CHINESE"), (2, u "SIMPLIFIED_CHINESE"), (2, u "TRADITIONAL_CHINESE"), (2, u "FRANCE"), (2, u "GERMANY"), (2, u "ITALY"), (2, u "JAPAN"), (2, u "KOREA"), (2, u "UK"), (2, u "US"), (2, u "CANADA"), (2, u "CANADA_FRENCH"), (2, u "CHINA"), (2, u "PRC"), (2, u "TAIWAN"), (13, u "serialPersistentFields"), (0, u "[Ljava/io/ObjectStreamField;"), (0, .class_ 898), (0, u "java/lang/Cloneable"), (0, .class_ 900), (0, u "java/io/Serializable"), (2, u "PRIVATE_USE_EXTENSION"), (0, u "C"), (2, u "UNICODE_LOCALE_EXTENSION"), (1, u "serialVersionUID"), (0, u "J"), (2, u "DISPLAY_LANGUAGE"), (1, u "DISPLAY_COUNTRY"), (1, u "DISPLAY_VARIANT"), (1, u "DISPLAY_SCRIPT"), (1, u "DISPLAY_UEXT_KEY"), (1, u "DISPLAY_UEXT_TYPE"), (174, .class_ 1099), (0, u "java/util/Locale$LanguageRange"), (0, .class_ 1101), (0, u "java/util/Locale$Builder"), (0, .class_ 1103), (0, u "java/util/Locale$IsoCountryCode$3"), (0, .class_ 1105), (0, u "java/util/Locale$IsoCountryCode$2"), (0, .class_ 1107), (0, u "java/util/Locale$IsoCountryCode$1")] 46

def k12c0 : Code := { maxStack := 1, maxLocals := 1, code := jdk_2628_method_27_code, exceptionTable := #[], attributes := #[] }
def k12m0 : Method := { name := "getLanguage", desc := "()Ljava/lang/String;", sig := { parameters := [], returnType := some (.object "java/lang/String") }, accessFlags := 1, code := some k12c0 }
/-- java/util/Locale -/
def k12 : Class := { plain "java/util/Locale" (some 0) with
  accessFlags := 49
  interfaces := #[11, 2]
  cf := some (fileOf pool12 7 #[.nestMembers #[1098, 779, 1100, 86, 490, 73, 67, 276, 1102, 1104, 1106]] #[{ accessFlags := 1, nameIndex := 295, descriptorIndex := 296, attributes := #[] }] 49 24 #[897, 899] #[{ accessFlags := 25, nameIndex := 821, descriptorIndex := 79, attributes := #[] }, { accessFlags := 25, nameIndex := 824, descriptorIndex := 79, attributes := #[] }, { accessFlags := 25, nameIndex := 827, descriptorIndex := 79, attributes := #[] }, { accessFlags := 25, nameIndex := 830, descriptorIndex := 79, attributes := #[] }, { accessFlags := 25, nameIndex := 833, descriptorIndex := 79, attributes := #[] }, { accessFlags := 25, nameIndex := 836, descriptorIndex := 79, attributes := #[] }, { accessFlags := 25, nameIndex := 839, descriptorIndex := 79, attributes := #[] }, { accessFlags := 25, nameIndex := 842, descriptorIndex := 79, attributes := #[] }, { accessFlags := 25, nameIndex := 845, descriptorIndex := 79, attributes := #[] }, { accessFlags := 25, nameIndex := 848, descriptorIndex := 79, attributes := #[] }, { accessFlags := 25, nameIndex := 851, descriptorIndex := 79, attributes := #[] }, { accessFlags := 25, nameIndex := 854, descriptorIndex := 79, attributes := #[] }, { accessFlags := 25, nameIndex := 857, descriptorIndex := 79, attributes := #[] }, { accessFlags := 25, nameIndex := 860, descriptorIndex := 79, attributes := #[] }, { accessFlags := 25, nameIndex := 863, descriptorIndex := 79, attributes := #[] }, { accessFlags := 25, nameIndex := 866, descriptorIndex := 79, attributes := #[] }, { accessFlags := 25, nameIndex := 869, descriptorIndex := 79, attributes := #[] }, { accessFlags := 25, nameIndex := 872, descriptorIndex := 79, attributes := #[] }, { accessFlags := 25, nameIndex := 649, descriptorIndex := 79, attributes := #[] }, { accessFlags := 26, nameIndex := 15, descriptorIndex := 16, attributes := #[] }, { accessFlags := 25, nameIndex := 875, descriptorIndex := 79, attributes := #[] }, { accessFlags := 25, nameIndex := 878, descriptorIndex := 79, attributes := #[] }, { accessFlags := 25, nameIndex := 881, descriptorIndex := 79, attributes := #[] }, { accessFlags := 25, nameIndex := 903, descriptorIndex := 904, attributes := #[] }, { accessFlags := 25, nameIndex := 907, descriptorIndex := 904, attributes := #[] }, { accessFlags := 24, nameIndex := 909, descriptorIndex := 910, attributes := #[] }, { accessFlags := 26, nameIndex := 913, descriptorIndex := 619, attributes := #[] }, { accessFlags := 26, nameIndex := 915, descriptorIndex := 619, attributes := #[] }, { accessFlags := 26, nameIndex := 917, descriptorIndex := 619, attributes := #[] }, { accessFlags := 26, nameIndex := 919, descriptorIndex := 619, attributes := #[] }, { accessFlags := 26, nameIndex := 921, descriptorIndex := 619, attributes := #[] }, { accessFlags := 26, nameIndex := 923, descriptorIndex := 619, attributes := #[] }, { accessFlags := 130, nameIndex := 30, descriptorIndex := 31, attributes := #[] }, { accessFlags := 130, nameIndex := 34, descriptorIndex := 35, attributes := #[] }, { accessFlags := 130, nameIndex := 618, descriptorIndex := 619, attributes := #[] }, { accessFlags := 74, nameIndex := 78, descriptorIndex := 79, attributes := #[] }, { accessFlags := 74, nameIndex := 93, descriptorIndex := 79, attributes := #[] }, { accessFlags := 74, nameIndex := 114, descriptorIndex := 79, attributes := #[] }, { accessFlags := 194, nameIndex := 375, descriptorIndex := 127, attributes := #[] }, { accessFlags := 26, nameIndex := 895, descriptorIndex := 896, attributes := #[] }, { accessFlags := 74, nameIndex := 283, descriptorIndex := 260, attributes := #[] }, { accessFlags := 74, nameIndex := 259, descriptorIndex := 260, attributes := #[] }, { accessFlags := 4120, nameIndex := 100, descriptorIndex := 101, attributes := #[] }])
  fields := #[{ name := "ENGLISH", type := (.object "java/util/Locale"), accessFlags := 25, slot := 0, constantValue := 0 }, { name := "FRENCH", type := (.object "java/util/Locale"), accessFlags := 25, slot := 1, constantValue := 0 }, { name := "GERMAN", type := (.object "java/util/Locale"), accessFlags := 25, slot := 2, constantValue := 0 }, { name := "ITALIAN", type := (.object "java/util/Locale"), accessFlags := 25, slot := 3, constantValue := 0 }, { name := "JAPANESE", type := (.object "java/util/Locale"), accessFlags := 25, slot := 4, constantValue := 0 }, { name := "KOREAN", type := (.object "java/util/Locale"), accessFlags := 25, slot := 5, constantValue := 0 }, { name := "CHINESE", type := (.object "java/util/Locale"), accessFlags := 25, slot := 6, constantValue := 0 }, { name := "SIMPLIFIED_CHINESE", type := (.object "java/util/Locale"), accessFlags := 25, slot := 7, constantValue := 0 }, { name := "TRADITIONAL_CHINESE", type := (.object "java/util/Locale"), accessFlags := 25, slot := 8, constantValue := 0 }, { name := "FRANCE", type := (.object "java/util/Locale"), accessFlags := 25, slot := 9, constantValue := 0 }, { name := "GERMANY", type := (.object "java/util/Locale"), accessFlags := 25, slot := 10, constantValue := 0 }, { name := "ITALY", type := (.object "java/util/Locale"), accessFlags := 25, slot := 11, constantValue := 0 }, { name := "JAPAN", type := (.object "java/util/Locale"), accessFlags := 25, slot := 12, constantValue := 0 }, { name := "KOREA", type := (.object "java/util/Locale"), accessFlags := 25, slot := 13, constantValue := 0 }, { name := "UK", type := (.object "java/util/Locale"), accessFlags := 25, slot := 14, constantValue := 0 }, { name := "US", type := (.object "java/util/Locale"), accessFlags := 25, slot := 15, constantValue := 0 }, { name := "CANADA", type := (.object "java/util/Locale"), accessFlags := 25, slot := 16, constantValue := 0 }, { name := "CANADA_FRENCH", type := (.object "java/util/Locale"), accessFlags := 25, slot := 17, constantValue := 0 }, { name := "ROOT", type := (.object "java/util/Locale"), accessFlags := 25, slot := 18, constantValue := 0 }, { name := "CONSTANT_LOCALES", type := (.object "java/util/Map"), accessFlags := 26, slot := 19, constantValue := 0 }, { name := "CHINA", type := (.object "java/util/Locale"), accessFlags := 25, slot := 20, constantValue := 0 }, { name := "PRC", type := (.object "java/util/Locale"), accessFlags := 25, slot := 21, constantValue := 0 }, { name := "TAIWAN", type := (.object "java/util/Locale"), accessFlags := 25, slot := 22, constantValue := 0 }, { name := "PRIVATE_USE_EXTENSION", type := .char, accessFlags := 25, slot := 23, constantValue := 0 }, { name := "UNICODE_LOCALE_EXTENSION", type := .char, accessFlags := 25, slot := 24, constantValue := 0 }, { name := "serialVersionUID", type := .long, accessFlags := 24, slot := 25, constantValue := 0 }, { name := "DISPLAY_LANGUAGE", type := .int, accessFlags := 26, slot := 26, constantValue := 0 }, { name := "DISPLAY_COUNTRY", type := .int, accessFlags := 26, slot := 27, constantValue := 0 }, { name := "DISPLAY_VARIANT", type := .int, accessFlags := 26, slot := 28, constantValue := 0 }, { name := "DISPLAY_SCRIPT", type := .int, accessFlags := 26, slot := 29, constantValue := 0 }, { name := "DISPLAY_UEXT_KEY", type := .int, accessFlags := 26, slot := 30, constantValue := 0 }, { name := "DISPLAY_UEXT_TYPE", type := .int, accessFlags := 26, slot := 31, constantValue := 0 }, { name := "baseLocale", type := (.object "sun/util/locale/BaseLocale"), accessFlags := 130, slot := 0, constantValue := 0 }, { name := "localeExtensions", type := (.object "sun/util/locale/LocaleExtensions"), accessFlags := 130, slot := 1, constantValue := 0 }, { name := "hashCodeValue", type := .int, accessFlags := 130, slot := 2, constantValue := 0 }, { name := "defaultLocale", type := (.object "java/util/Locale"), accessFlags := 74, slot := 32, constantValue := 0 }, { name := "defaultDisplayLocale", type := (.object "java/util/Locale"), accessFlags := 74, slot := 33, constantValue := 0 }, { name := "defaultFormatLocale", type := (.object "java/util/Locale"), accessFlags := 74, slot := 34, constantValue := 0 }, { name := "languageTag", type := (.object "java/lang/String"), accessFlags := 194, slot := 3, constantValue := 0 }, { name := "serialPersistentFields", type := (.array (.object "java/io/ObjectStreamField")), accessFlags := 26, slot := 35, constantValue := 0 }, { name := "isoLanguages", type := (.array (.object "java/lang/String")), accessFlags := 74, slot := 36, constantValue := 0 }, { name := "isoCountries", type := (.array (.object "java/lang/String")), accessFlags := 74, slot := 37, constantValue := 0 }, { name := "$assertionsDisabled", type := .boolean, accessFlags := 4120, slot := 38, constantValue := 0 }]
  methods := #[k12m0]
  instanceTypes := #[(.object "sun/util/locale/BaseLocale"), (.object "sun/util/locale/LocaleExtensions"), .int, (.object "java/lang/String")]
  staticTypes := #[(.object "java/util/Locale"), (.object "java/util/Locale"), (.object "java/util/Locale"), (.object "java/util/Locale"), (.object "java/util/Locale"), (.object "java/util/Locale"), (.object "java/util/Locale"), (.object "java/util/Locale"), (.object "java/util/Locale"), (.object "java/util/Locale"), (.object "java/util/Locale"), (.object "java/util/Locale"), (.object "java/util/Locale"), (.object "java/util/Locale"), (.object "java/util/Locale"), (.object "java/util/Locale"), (.object "java/util/Locale"), (.object "java/util/Locale"), (.object "java/util/Locale"), (.object "java/util/Map"), (.object "java/util/Locale"), (.object "java/util/Locale"), (.object "java/util/Locale"), .char, .char, .long, .int, .int, .int, .int, .int, .int, (.object "java/util/Locale"), (.object "java/util/Locale"), (.object "java/util/Locale"), (.array (.object "java/io/ObjectStreamField")), (.array (.object "java/lang/String")), (.array (.object "java/lang/String")), .boolean]
  resolved := Array.replicate 1154 none
  statics := some 1 }

def pool13 : Array CpInfo := pool [(6, .class_ 8), (1, u "java/lang/Object"), (0, u "<init>"), (0, u "()V"), (1, .class_ 14), (1, u "java/lang/StringUTF16"), (31, u "$assertionsDisabled"), (0, u "Z"), (13, u "HI_BYTE_SHIFT"), (0, u "I"), (2, u "LO_BYTE_SHIFT"), (49, .methodref 12 116), (0, .nameAndType 117 118), (0, u "compress"), (0, u "([CI[BII)I"), (3, u "([CII)[B"), (138, u "coderFromArrayLen"), (0, u "([BI)B"), (106, .class_ 371), (1, u "java/lang/StringUTF16$LinesSpliterator"), (58, u "MAX_LENGTH"), (196, .class_ 628), (0, u "java/lang/StringUTF16$CodePointsSpliterator"), (0, .class_ 630), (0, u "java/lang/StringUTF16$CharsSpliterator")] 4

def k13m0 : Method := { name := "<init>", desc := "()V", sig := { parameters := [], returnType := none }, accessFlags := 0, code := none }
def k13c1 : Code := { maxStack := 2, maxLocals := 2, code := jdk_52_method_15_code, exceptionTable := #[], attributes := #[] }
def k13m1 : Method := { name := "coderFromArrayLen", desc := "([BI)B", sig := { parameters := [(.array .byte), .int], returnType := some .byte }, accessFlags := 8, code := some k13c1 }
def k13c2 : Code := { maxStack := 5, maxLocals := 6, code := jdk_52_method_16_code, exceptionTable := #[], attributes := #[] }
def k13m2 : Method := { name := "compress", desc := "([CII)[B", sig := { parameters := [(.array .char), .int, .int], returnType := some (.array .byte) }, accessFlags := 9, code := some k13c2 }
def k13c3 : Code := { maxStack := 3, maxLocals := 7, code := jdk_52_method_21_code, exceptionTable := #[], attributes := #[] }
def k13m3 : Method := { name := "compress", desc := "([CI[BII)I", sig := { parameters := [(.array .char), .int, (.array .byte), .int, .int], returnType := some .int }, accessFlags := 9, code := some k13c3 }
/-- java/lang/StringUTF16 -/
def k13 : Class := { plain "java/lang/StringUTF16" (some 0) with
  accessFlags := 48
  interfaces := #[]
  cf := some (fileOf pool13 12 #[.nestMembers #[627, 629, 369]] #[{ accessFlags := 0, nameIndex := 9, descriptorIndex := 10, attributes := #[] }, { accessFlags := 8, nameIndex := 261, descriptorIndex := 262, attributes := #[] }, { accessFlags := 9, nameIndex := 117, descriptorIndex := 122, attributes := #[] }, { accessFlags := 9, nameIndex := 117, descriptorIndex := 118, attributes := #[] }] 48 6 #[] #[{ accessFlags := 26, nameIndex := 61, descriptorIndex := 62, attributes := #[] }, { accessFlags := 26, nameIndex := 65, descriptorIndex := 62, attributes := #[] }, { accessFlags := 24, nameIndex := 430, descriptorIndex := 62, attributes := #[] }, { accessFlags := 4120, nameIndex := 46, descriptorIndex := 47, attributes := #[] }])
  fields := #[{ name := "HI_BYTE_SHIFT", type := .int, accessFlags := 26, slot := 0, constantValue := 0 }, { name := "LO_BYTE_SHIFT", type := .int, accessFlags := 26, slot := 1, constantValue := 0 }, { name := "MAX_LENGTH", type := .int, accessFlags := 24, slot := 2, constantValue := 0 }, { name := "$assertionsDisabled", type := .boolean, accessFlags := 4120, slot := 3, constantValue := 0 }]
  methods := #[k13m0, k13m1, k13m2, k13m3]
  instanceTypes := #[]
  staticTypes := #[.int, .int, .int, .boolean]
  resolved := Array.replicate 635 none
  statics := none }

def pool14 : Array CpInfo := pool [(2, .class_ 4), (1, u "java/lang/Object"), (0, u "<init>"), (0, u "()V"), (1, .class_ 10), (1, u "java/lang/CharacterData")] 75

def k14m0 : Method := { name := "<init>", desc := "()V", sig := { parameters := [], returnType := none }, accessFlags := 0, code := none }
/-- java/lang/CharacterData -/
def k14 : Class := { plain "java/lang/CharacterData" (some 0) with
  accessFlags := 1056
  interfaces := #[]
  cf := some (fileOf pool14 8 #[] #[{ accessFlags := 0, nameIndex := 5, descriptorIndex := 6, attributes := #[] }] 1056 2 #[] #[])
  fields := #[]
  methods := #[k14m0]
  instanceTypes := #[]
  staticTypes := #[]
  resolved := Array.replicate 86 none
  statics := none }

def pool15 : Array CpInfo := pool [(1, .fieldref 2 3), (0, .class_ 4), (0, .nameAndType 5 6), (0, u "java/lang/CharacterDataLatin1"), (0, u "A"), (0, u "[I"), (2, u "B"), (0, u "[C"), (3, u "(I)I"), (0, .methodref 2 16), (0, .nameAndType 17 14), (0, u "getProperties"), (3, u "(I)Z"), (5, u "DIGITS"), (0, u "[B"), (8, u "sharpsMap"), (1, .class_ 41), (1, u "java/lang/CharacterData"), (0, u "<init>"), (0, u "()V"), (3, u "instance"), (0, u "Ljava/lang/CharacterDataLatin1;"), (63, u "toLowerCase"), (14, u "isWhitespace")] 13

def k15c0 : Code := { maxStack := 2, maxLocals := 4, code := jdk_116_method_1_code, exceptionTable := #[], attributes := #[] }
def k15m0 : Method := { name := "getProperties", desc := "(I)I", sig := { parameters := [.int], returnType := some .int }, accessFlags := 0, code := some k15c0 }
def k15c1 : Code := { maxStack := 2, maxLocals := 3, code := jdk_116_method_20_code, exceptionTable := #[], attributes := #[] }
def k15m1 : Method := { name := "toLowerCase", desc := "(I)I", sig := { parameters := [.int], returnType := some .int }, accessFlags := 0, code := some k15c1 }
def k15c2 : Code := { maxStack := 2, maxLocals := 3, code := jdk_116_method_26_code, exceptionTable := #[], attributes := #[] }
def k15m2 : Method := { name := "isWhitespace", desc := "(I)Z", sig := { parameters := [.int], returnType := some .boolean }, accessFlags := 0, code := some k15c2 }
def k15m3 : Method := { name := "<init>", desc := "()V", sig := { parameters := [], returnType := none }, accessFlags := 2, code := none }
/-- java/lang/CharacterDataLatin1 -/
def k15 : Class := { plain "java/lang/CharacterDataLatin1" (some 14) with
  accessFlags := 32
  interfaces := #[]
  cf := some (fileOf pool15 2 #[] #[{ accessFlags := 0, nameIndex := 17, descriptorIndex := 14, attributes := #[] }, { accessFlags := 0, nameIndex := 112, descriptorIndex := 14, attributes := #[] }, { accessFlags := 0, nameIndex := 127, descriptorIndex := 21, attributes := #[] }, { accessFlags := 2, nameIndex := 42, descriptorIndex := 43, attributes := #[] }] 32 39 #[] #[{ accessFlags := 26, nameIndex := 27, descriptorIndex := 28, attributes := #[] }, { accessFlags := 8, nameIndex := 37, descriptorIndex := 10, attributes := #[] }, { accessFlags := 24, nameIndex := 47, descriptorIndex := 48, attributes := #[] }, { accessFlags := 24, nameIndex := 5, descriptorIndex := 6, attributes := #[] }, { accessFlags := 24, nameIndex := 9, descriptorIndex := 10, attributes := #[] }])
  fields := #[{ name := "DIGITS", type := (.array .byte), accessFlags := 26, slot := 0, constantValue := 0 }, { name := "sharpsMap", type := (.array .char), accessFlags := 8, slot := 1, constantValue := 0 }, { name := "instance", type := (.object "java/lang/CharacterDataLatin1"), accessFlags := 24, slot := 2, constantValue := 0 }, { name := "A", type := (.array .int), accessFlags := 24, slot := 3, constantValue := 0 }, { name := "B", type := (.array .char), accessFlags := 24, slot := 4, constantValue := 0 }]
  methods := #[k15m0, k15m1, k15m2, k15m3]
  instanceTypes := #[]
  staticTypes := #[(.array .byte), (.array .char), (.object "java/lang/CharacterDataLatin1"), (.array .int), (.array .char)]
  resolved := Array.replicate 141 none
  statics := some 2 }

def pool16 : Array CpInfo := pool [(2, .class_ 4), (1, u "java/lang/Object"), (0, u "<init>"), (0, u "()V"), (17, .class_ 26), (1, u "jdk/internal/util/Preconditions"), (20, u "checkFromToIndex"), (7, .class_ 56), (0, u "jdk/internal/util/Preconditions$4"), (57, .class_ 115), (0, u "jdk/internal/util/Preconditions$1"), (7, u "SIOOBE_FORMATTER"), (0, u "Ljava/util/function/BiFunction;"), (0, .class_ 126), (0, u "jdk/internal/util/Preconditions$2"), (3, u "AIOOBE_FORMATTER"), (0, .class_ 132), (0, u "jdk/internal/util/Preconditions$3"), (3, u "IOOBE_FORMATTER"), (46, u "(IIILjava/util/function/BiFunction;)I")] 10

def k16m0 : Method := { name := "<init>", desc := "()V", sig := { parameters := [], returnType := none }, accessFlags := 1, code := none }
def k16c1 : Code := { maxStack := 4, maxLocals := 4, code := jdk_41_method_12_code, exceptionTable := #[], attributes := #[] }
def k16m1 : Method := { name := "checkFromToIndex", desc := "(IIILjava/util/function/BiFunction;)I", sig := { parameters := [.int, .int, .int, (.object "java/util/function/BiFunction")], returnType := some .int }, accessFlags := 9, code := some k16c1 }
/-- jdk/internal/util/Preconditions -/
def k16 : Class := { plain "jdk/internal/util/Preconditions" (some 0) with
  accessFlags := 33
  interfaces := #[]
  cf := some (fileOf pool16 24 #[.nestMembers #[55, 131, 125, 114]] #[{ accessFlags := 1, nameIndex := 5, descriptorIndex := 6, attributes := #[] }, { accessFlags := 9, nameIndex := 47, descriptorIndex := 183, attributes := #[] }] 33 2 #[] #[{ accessFlags := 25, nameIndex := 123, descriptorIndex := 124, attributes := #[] }, { accessFlags := 25, nameIndex := 130, descriptorIndex := 124, attributes := #[] }, { accessFlags := 25, nameIndex := 136, descriptorIndex := 124, attributes := #[] }])
  fields := #[{ name := "SIOOBE_FORMATTER", type := (.object "java/util/function/BiFunction"), accessFlags := 25, slot := 0, constantValue := 0 }, { name := "AIOOBE_FORMATTER", type := (.object "java/util/function/BiFunction"), accessFlags := 25, slot := 1, constantValue := 0 }, { name := "IOOBE_FORMATTER", type := (.object "java/util/function/BiFunction"), accessFlags := 25, slot := 2, constantValue := 0 }]
  methods := #[k16m0, k16m1]
  instanceTypes := #[]
  staticTypes := #[(.object "java/util/function/BiFunction"), (.object "java/util/function/BiFunction"), (.object "java/util/function/BiFunction")]
  resolved := Array.replicate 194 none
  statics := some 3 }

def pool17 : Array CpInfo := pool [(2, .class_ 4), (1, u "java/lang/Object"), (0, u "<init>"), (0, u "()V"), (7, .class_ 16), (1, u "java/util/Arrays"), (57, .class_ 76), (1, u "java/util/Arrays$NaturalOrder"), (36, .class_ 115), (1, u "java/util/Arrays$LegacyMergeSort"), (1, u "Z"), (21, u "copyOfRange"), (10, .methodref 151 152), (0, .class_ 153), (0, .nameAndType 154 155), (0, u "java/lang/System"), (0, u "arraycopy"), (0, u "(Ljava/lang/Object;ILjava/lang/Object;II)V"), (148, .methodref 305 306), (0, .class_ 307), (0, .nameAndType 308 309), (0, u "java/lang/Math"), (0, u "min"), (0, u "(II)I"), (29, .methodref 14 340), (0, .nameAndType 341 342), (0, u "copyOfRangeByte"), (0, u "([BII)[B"), (0, .methodref 14 344), (0, .nameAndType 345 346), (0, u "checkLength"), (0, u "(II)V"), (28, .class_ 376), (0, u "java/util/Arrays$ArrayList"), (68, u "$assertionsDisabled"), (269, u "MIN_ARRAY_SORT_GRAN"), (0, u "I"), (2, u "INSERTIONSORT_THRESHOLD"), (255, .class_ 976), (0, u "java/util/Arrays$ArrayItr")] 52

def k17m0 : Method := { name := "<init>", desc := "()V", sig := { parameters := [], returnType := none }, accessFlags := 2, code := none }
def k17c1 : Code := { maxStack := 4, maxLocals := 2, code := jdk_65_method_131_code, exceptionTable := #[], attributes := #[] }
def k17m1 : Method := { name := "checkLength", desc := "(II)V", sig := { parameters := [.int, .int], returnType := none }, accessFlags := 10, code := some k17c1 }
def k17c2 : Code := { maxStack := 3, maxLocals := 3, code := jdk_65_method_132_code, exceptionTable := #[], attributes := #[] }
def k17m2 : Method := { name := "copyOfRange", desc := "([BII)[B", sig := { parameters := [(.array .byte), .int, .int], returnType := some (.array .byte) }, accessFlags := 9, code := some k17c2 }
def k17c3 : Code := { maxStack := 6, maxLocals := 5, code := jdk_65_method_133_code, exceptionTable := #[], attributes := #[] }
def k17m3 : Method := { name := "copyOfRangeByte", desc := "([BII)[B", sig := { parameters := [(.array .byte), .int, .int], returnType := some (.array .byte) }, accessFlags := 10, code := some k17c3 }
/-- java/util/Arrays -/
def k17 : Class := { plain "java/util/Arrays" (some 0) with
  accessFlags := 49
  interfaces := #[]
  cf := some (fileOf pool17 14 #[.nestMembers #[975, 375, 113, 74]] #[{ accessFlags := 2, nameIndex := 5, descriptorIndex := 6, attributes := #[] }, { accessFlags := 10, nameIndex := 345, descriptorIndex := 346, attributes := #[] }, { accessFlags := 9, nameIndex := 139, descriptorIndex := 342, attributes := #[] }, { accessFlags := 10, nameIndex := 341, descriptorIndex := 342, attributes := #[] }] 49 2 #[] #[{ accessFlags := 26, nameIndex := 715, descriptorIndex := 716, attributes := #[] }, { accessFlags := 26, nameIndex := 719, descriptorIndex := 716, attributes := #[] }, { accessFlags := 4120, nameIndex := 445, descriptorIndex := 117, attributes := #[] }])
  fields := #[{ name := "MIN_ARRAY_SORT_GRAN", type := .int, accessFlags := 26, slot := 0, constantValue := 0 }, { name := "INSERTIONSORT_THRESHOLD", type := .int, accessFlags := 26, slot := 1, constantValue := 0 }, { name := "$assertionsDisabled", type := .boolean, accessFlags := 4120, slot := 2, constantValue := 0 }]
  methods := #[k17m0, k17m1, k17m2, k17m3]
  instanceTypes := #[]
  staticTypes := #[.int, .int, .boolean]
  resolved := Array.replicate 1029 none
  statics := none }

def pool18 : Array CpInfo := pool [(2, .class_ 4), (1, u "java/lang/Object"), (0, u "<init>"), (0, u "()V"), (1, .class_ 10), (1, u "java/lang/System"), (0, u "allowSecurityManager"), (0, u "I"), (16, u "cons"), (0, u "Ljava/io/Console;"), (77, .class_ 110), (1, u "java/lang/System$CallersHolder"), (43, u "initialErrStream"), (0, u "Ljava/io/PrintStream;"), (19, u "security"), (0, u "Ljava/lang/SecurityManager;"), (31, .class_ 209), (0, u "java/lang/System$1"), (7, u "props"), (0, u "Ljava/util/Properties;"), (2, u "lineSeparator"), (0, u "Ljava/lang/String;"), (96, .class_ 321), (1, u "java/lang/System$LoggerFinder"), (5, .class_ 328), (0, u "java/lang/System$Logger"), (67, u "err"), (2, u "out"), (91, u "notSupportedJnuEncoding"), (15, u "in"), (17, u "initialIn"), (0, u "Ljava/io/InputStream;"), (35, u "bootLayer"), (0, u "Ljava/lang/ModuleLayer;"), (99, .class_ 664), (0, u "java/lang/System$2"), (9, u "NEVER"), (2, u "MAYBE"), (49, u "arraycopy"), (0, u "(Ljava/lang/Object;ILjava/lang/Object;II)V"), (72, .class_ 802), (0, u "java/lang/System$Logger$Level")] 31

def k18m0 : Method := { name := "<init>", desc := "()V", sig := { parameters := [], returnType := none }, accessFlags := 2, code := none }
def k18m1 : Method := { name := "arraycopy", desc := "(Ljava/lang/Object;ILjava/lang/Object;II)V", sig := { parameters := [(.object "java/lang/Object"), .int, (.object "java/lang/Object"), .int, .int], returnType := none }, accessFlags := 265, code := none }
/-- java/lang/System -/
def k18 : Class := { plain "java/lang/System" (some 0) with
  accessFlags := 49
  interfaces := #[]
  cf := some (fileOf pool18 8 #[.nestMembers #[319, 327, 801, 108, 663, 208]] #[{ accessFlags := 2, nameIndex := 5, descriptorIndex := 6, attributes := #[] }, { accessFlags := 265, nameIndex := 727, descriptorIndex := 728, attributes := #[] }] 49 2 #[] #[{ accessFlags := 25, nameIndex := 507, descriptorIndex := 526, attributes := #[] }, { accessFlags := 25, nameIndex := 399, descriptorIndex := 155, attributes := #[] }, { accessFlags := 25, nameIndex := 396, descriptorIndex := 155, attributes := #[] }, { accessFlags := 10, nameIndex := 525, descriptorIndex := 526, attributes := #[] }, { accessFlags := 26, nameIndex := 674, descriptorIndex := 12, attributes := #[] }, { accessFlags := 26, nameIndex := 677, descriptorIndex := 12, attributes := #[] }, { accessFlags := 10, nameIndex := 11, descriptorIndex := 12, attributes := #[] }, { accessFlags := 74, nameIndex := 175, descriptorIndex := 176, attributes := #[] }, { accessFlags := 10, nameIndex := 491, descriptorIndex := 222, attributes := #[] }, { accessFlags := 74, nameIndex := 29, descriptorIndex := 30, attributes := #[] }, { accessFlags := 74, nameIndex := 154, descriptorIndex := 155, attributes := #[] }, { accessFlags := 10, nameIndex := 217, descriptorIndex := 218, attributes := #[] }, { accessFlags := 10, nameIndex := 221, descriptorIndex := 222, attributes := #[] }, { accessFlags := 8, nameIndex := 562, descriptorIndex := 563, attributes := #[] }])
  fields := #[{ name := "in", type := (.object "java/io/InputStream"), accessFlags := 25, slot := 0, constantValue := 0 }, { name := "out", type := (.object "java/io/PrintStream"), accessFlags := 25, slot := 1, constantValue := 0 }, { name := "err", type := (.object "java/io/PrintStream"), accessFlags := 25, slot := 2, constantValue := 0 }, { name := "initialIn", type := (.object "java/io/InputStream"), accessFlags := 10, slot := 3, constantValue := 0 }, { name := "NEVER", type := .int, accessFlags := 26, slot := 4, constantValue := 0 }, { name := "MAYBE", type := .int, accessFlags := 26, slot := 5, constantValue := 0 }, { name := "allowSecurityManager", type := .int, accessFlags := 10, slot := 6, constantValue := 0 }, { name := "security", type := (.object "java/lang/SecurityManager"), accessFlags := 74, slot := 7, constantValue := 0 }, { name := "notSupportedJnuEncoding", type := (.object "java/lang/String"), accessFlags := 10, slot := 8, constantValue := 0 }, { name := "cons", type := (.object "java/io/Console"), accessFlags := 74, slot := 9, constantValue := 0 }, { name := "initialErrStream", type := (.object "java/io/PrintStream"), accessFlags := 74, slot := 10, constantValue := 0 }, { name := "props", type := (.object "java/util/Properties"), accessFlags := 10, slot := 11, constantValue := 0 }, { name := "lineSeparator", type := (.object "java/lang/String"), accessFlags := 10, slot := 12, constantValue := 0 }, { name := "bootLayer", type := (.object "java/lang/ModuleLayer"), accessFlags := 8, slot := 13, constantValue := 0 }]
  methods := #[k18m0, k18m1]
  instanceTypes := #[]
  staticTypes := #[(.object "java/io/InputStream"), (.object "java/io/PrintStream"), (.object "java/io/PrintStream"), (.object "java/io/InputStream"), .int, .int, .int, (.object "java/lang/SecurityManager"), (.object "java/lang/String"), (.object "java/io/Console"), (.object "java/io/PrintStream"), (.object "java/util/Properties"), (.object "java/lang/String"), (.object "java/lang/ModuleLayer")]
  resolved := Array.replicate 834 none
  statics := none }

def pool19 : Array CpInfo := pool [(2, .class_ 4), (1, u "java/lang/Object"), (13, u "()Ljava/lang/String;"), (0, .fieldref 20 21), (0, .class_ 22), (0, .nameAndType 23 24), (0, u "sun/util/locale/BaseLocale"), (0, u "language"), (0, u "Ljava/lang/String;"), (5, u "script"), (5, u "region"), (2, u "variant"), (11, u "constantBaseLocales"), (0, u "[Lsun/util/locale/BaseLocale;"), (2, u "getLanguage"), (10, .class_ 67), (0, u "sun/util/locale/BaseLocale$Key"), (2, .class_ 72), (1, u "sun/util/locale/BaseLocale$Cache"), (24, u "OLD_ISO_CODES"), (0, u "Z"), (32, u "hash"), (0, u "I"), (41, u "US"), (15, u "ENGLISH"), (0, u "B"), (2, u "FRENCH"), (1, u "GERMAN"), (1, u "ITALIAN"), (1, u "JAPANESE"), (1, u "KOREAN"), (1, u "CHINESE"), (1, u "SIMPLIFIED_CHINESE"), (1, u "TRADITIONAL_CHINESE"), (1, u "FRANCE"), (1, u "GERMANY"), (1, u "ITALY"), (1, u "JAPAN"), (1, u "KOREA"), (1, u "UK"), (2, u "CANADA"), (1, u "CANADA_FRENCH"), (1, u "ROOT"), (1, u "NUM_CONSTANTS"), (1, u "SEP")] 31

def k19c0 : Code := { maxStack := 1, maxLocals := 1, code := jdk_3003_method_5_code, exceptionTable := #[], attributes := #[] }
def k19m0 : Method := { name := "getLanguage", desc := "()Ljava/lang/String;", sig := { parameters := [], returnType := some (.object "java/lang/String") }, accessFlags := 1, code := some k19c0 }
/-- sun/util/locale/BaseLocale -/
def k19 : Class := { plain "sun/util/locale/BaseLocale" (some 0) with
  accessFlags := 49
  interfaces := #[]
  cf := some (fileOf pool19 20 #[.nestMembers #[70, 66]] #[{ accessFlags := 1, nameIndex := 55, descriptorIndex := 18, attributes := #[] }] 49 2 #[] #[{ accessFlags := 9, nameIndex := 51, descriptorIndex := 52, attributes := #[] }, { accessFlags := 25, nameIndex := 190, descriptorIndex := 191, attributes := #[] }, { accessFlags := 25, nameIndex := 194, descriptorIndex := 191, attributes := #[] }, { accessFlags := 25, nameIndex := 196, descriptorIndex := 191, attributes := #[] }, { accessFlags := 25, nameIndex := 198, descriptorIndex := 191, attributes := #[] }, { accessFlags := 25, nameIndex := 200, descriptorIndex := 191, attributes := #[] }, { accessFlags := 25, nameIndex := 202, descriptorIndex := 191, attributes := #[] }, { accessFlags := 25, nameIndex := 204, descriptorIndex := 191, attributes := #[] }, { accessFlags := 25, nameIndex := 206, descriptorIndex := 191, attributes := #[] }, { accessFlags := 25, nameIndex := 208, descriptorIndex := 191, attributes := #[] }, { accessFlags := 25, nameIndex := 210, descriptorIndex := 191, attributes := #[] }, { accessFlags := 25, nameIndex := 212, descriptorIndex := 191, attributes := #[] }, { accessFlags := 25, nameIndex := 214, descriptorIndex := 191, attributes := #[] }, { accessFlags := 25, nameIndex := 216, descriptorIndex := 191, attributes := #[] }, { accessFlags := 25, nameIndex := 218, descriptorIndex := 191, attributes := #[] }, { accessFlags := 25, nameIndex := 220, descriptorIndex := 191, attributes := #[] }, { accessFlags := 25, nameIndex := 174, descriptorIndex := 191, attributes := #[] }, { accessFlags := 25, nameIndex := 223, descriptorIndex := 191, attributes := #[] }, { accessFlags := 25, nameIndex := 225, descriptorIndex := 191, attributes := #[] }, { accessFlags := 25, nameIndex := 227, descriptorIndex := 191, attributes := #[] }, { accessFlags := 25, nameIndex := 229, descriptorIndex := 191, attributes := #[] }, { accessFlags := 25, nameIndex := 231, descriptorIndex := 24, attributes := #[] }, { accessFlags := 18, nameIndex := 23, descriptorIndex := 24, attributes := #[] }, { accessFlags := 18, nameIndex := 30, descriptorIndex := 24, attributes := #[] }, { accessFlags := 18, nameIndex := 36, descriptorIndex := 24, attributes := #[] }, { accessFlags := 18, nameIndex := 39, descriptorIndex := 24, attributes := #[] }, { accessFlags := 2, nameIndex := 131, descriptorIndex := 132, attributes := #[] }, { accessFlags := 26, nameIndex := 97, descriptorIndex := 98, attributes := #[] }])
  fields := #[{ name := "constantBaseLocales", type := (.array (.object "sun/util/locale/BaseLocale")), accessFlags := 9, slot := 0, constantValue := 0 }, { name := "ENGLISH", type := .byte, accessFlags := 25, slot := 1, constantValue := 0 }, { name := "FRENCH", type := .byte, accessFlags := 25, slot := 2, constantValue := 0 }, { name := "GERMAN", type := .byte, accessFlags := 25, slot := 3, constantValue := 0 }, { name := "ITALIAN", type := .byte, accessFlags := 25, slot := 4, constantValue := 0 }, { name := "JAPANESE", type := .byte, accessFlags := 25, slot := 5, constantValue := 0 }, { name := "KOREAN", type := .byte, accessFlags := 25, slot := 6, constantValue := 0 }, { name := "CHINESE", type := .byte, accessFlags := 25, slot := 7, constantValue := 0 }, { name := "SIMPLIFIED_CHINESE", type := .byte, accessFlags := 25, slot := 8, constantValue := 0 }, { name := "TRADITIONAL_CHINESE", type := .byte, accessFlags := 25, slot := 9, constantValue := 0 }, { name := "FRANCE", type := .byte, accessFlags := 25, slot := 10, constantValue := 0 }, { name := "GERMANY", type := .byte, accessFlags := 25, slot := 11, constantValue := 0 }, { name := "ITALY", type := .byte, accessFlags := 25, slot := 12, constantValue := 0 }, { name := "JAPAN", type := .byte, accessFlags := 25, slot := 13, constantValue := 0 }, { name := "KOREA", type := .byte, accessFlags := 25, slot := 14, constantValue := 0 }, { name := "UK", type := .byte, accessFlags := 25, slot := 15, constantValue := 0 }, { name := "US", type := .byte, accessFlags := 25, slot := 16, constantValue := 0 }, { name := "CANADA", type := .byte, accessFlags := 25, slot := 17, constantValue := 0 }, { name := "CANADA_FRENCH", type := .byte, accessFlags := 25, slot := 18, constantValue := 0 }, { name := "ROOT", type := .byte, accessFlags := 25, slot := 19, constantValue := 0 }, { name := "NUM_CONSTANTS", type := .byte, accessFlags := 25, slot := 20, constantValue := 0 }, { name := "SEP", type := (.object "java/lang/String"), accessFlags := 25, slot := 21, constantValue := 0 }, { name := "language", type := (.object "java/lang/String"), accessFlags := 18, slot := 0, constantValue := 0 }, { name := "script", type := (.object "java/lang/String"), accessFlags := 18, slot := 1, constantValue := 0 }, { name := "region", type := (.object "java/lang/String"), accessFlags := 18, slot := 2, constantValue := 0 }, { name := "variant", type := (.object "java/lang/String"), accessFlags := 18, slot := 3, constantValue := 0 }, { name := "hash", type := .int, accessFlags := 2, slot := 4, constantValue := 0 }, { name := "OLD_ISO_CODES", type := .boolean, accessFlags := 26, slot := 22, constantValue := 0 }]
  methods := #[k19m0]
  instanceTypes := #[(.object "java/lang/String"), (.object "java/lang/String"), (.object "java/lang/String"), (.object "java/lang/String"), .int]
  staticTypes := #[(.array (.object "sun/util/locale/BaseLocale")), .byte, .byte, .byte, .byte, .byte, .byte, .byte, .byte, .byte, .byte, .byte, .byte, .byte, .byte, .byte, .byte, .byte, .byte, .byte, .byte, (.object "java/lang/String"), .boolean]
  resolved := Array.replicate 263 none
  statics := none }

def pool20 : Array CpInfo := pool [(9, u "<init>"), (6, .class_ 18), (1, u "java/lang/Object"), (0, u "()V"), (1, .class_ 23), (1, u "jdk/internal/util/ArraysSupport"), (0, u "LOG2_ARRAY_LONG_INDEX_SCALE"), (0, u "I"), (2, u "U"), (0, u "Ljdk/internal/misc/Unsafe;"), (8, u "BIG_ENDIAN"), (0, u "Z"), (8, u "LOG2_BYTE_BIT_SIZE"), (4, u "LOG2_ARRAY_INT_INDEX_SCALE"), (54, u "JLA"), (0, u "Ljdk/internal/access/JavaLangAccess;"), (11, u "LOG2_ARRAY_BOOLEAN_INDEX_SCALE"), (9, u "LOG2_ARRAY_BYTE_INDEX_SCALE"), (5, u "LOG2_ARRAY_CHAR_INDEX_SCALE"), (5, u "LOG2_ARRAY_SHORT_INDEX_SCALE"), (18, u "LOG2_ARRAY_FLOAT_INDEX_SCALE"), (24, u "LOG2_ARRAY_DOUBLE_INDEX_SCALE"), (89, u "T_BOOLEAN"), (2, u "T_CHAR"), (1, u "T_FLOAT"), (1, u "T_DOUBLE"), (1, u "T_BYTE"), (1, u "T_SHORT"), (1, u "T_INT"), (1, u "T_LONG"), (1, u "SOFT_MAX_ARRAY_LENGTH")] 83

def k20m0 : Method := { name := "<init>", desc := "()V", sig := { parameters := [], returnType := none }, accessFlags := 2, code := none }
/-- jdk/internal/util/ArraysSupport -/
def k20 : Class := { plain "jdk/internal/util/ArraysSupport" (some 0) with
  accessFlags := 33
  interfaces := #[]
  cf := some (fileOf pool20 21 #[] #[{ accessFlags := 2, nameIndex := 9, descriptorIndex := 19, attributes := #[] }] 33 16 #[] #[{ accessFlags := 24, nameIndex := 28, descriptorIndex := 29, attributes := #[] }, { accessFlags := 26, nameIndex := 38, descriptorIndex := 39, attributes := #[] }, { accessFlags := 25, nameIndex := 121, descriptorIndex := 25, attributes := #[] }, { accessFlags := 25, nameIndex := 131, descriptorIndex := 25, attributes := #[] }, { accessFlags := 25, nameIndex := 137, descriptorIndex := 25, attributes := #[] }, { accessFlags := 25, nameIndex := 143, descriptorIndex := 25, attributes := #[] }, { accessFlags := 25, nameIndex := 53, descriptorIndex := 25, attributes := #[] }, { accessFlags := 25, nameIndex := 24, descriptorIndex := 25, attributes := #[] }, { accessFlags := 25, nameIndex := 162, descriptorIndex := 25, attributes := #[] }, { accessFlags := 25, nameIndex := 187, descriptorIndex := 25, attributes := #[] }, { accessFlags := 26, nameIndex := 48, descriptorIndex := 25, attributes := #[] }, { accessFlags := 25, nameIndex := 277, descriptorIndex := 25, attributes := #[] }, { accessFlags := 25, nameIndex := 280, descriptorIndex := 25, attributes := #[] }, { accessFlags := 25, nameIndex := 282, descriptorIndex := 25, attributes := #[] }, { accessFlags := 25, nameIndex := 284, descriptorIndex := 25, attributes := #[] }, { accessFlags := 25, nameIndex := 286, descriptorIndex := 25, attributes := #[] }, { accessFlags := 25, nameIndex := 288, descriptorIndex := 25, attributes := #[] }, { accessFlags := 25, nameIndex := 290, descriptorIndex := 25, attributes := #[] }, { accessFlags := 25, nameIndex := 292, descriptorIndex := 25, attributes := #[] }, { accessFlags := 26, nameIndex := 108, descriptorIndex := 109, attributes := #[] }, { accessFlags := 25, nameIndex := 294, descriptorIndex := 25, attributes := #[] }])
  fields := #[{ name := "U", type := (.object "jdk/internal/misc/Unsafe"), accessFlags := 24, slot := 0, constantValue := 0 }, { name := "BIG_ENDIAN", type := .boolean, accessFlags := 26, slot := 1, constantValue := 0 }, { name := "LOG2_ARRAY_BOOLEAN_INDEX_SCALE", type := .int, accessFlags := 25, slot := 2, constantValue := 0 }, { name := "LOG2_ARRAY_BYTE_INDEX_SCALE", type := .int, accessFlags := 25, slot := 3, constantValue := 0 }, { name := "LOG2_ARRAY_CHAR_INDEX_SCALE", type := .int, accessFlags := 25, slot := 4, constantValue := 0 }, { name := "LOG2_ARRAY_SHORT_INDEX_SCALE", type := .int, accessFlags := 25, slot := 5, constantValue := 0 }, { name := "LOG2_ARRAY_INT_INDEX_SCALE", type := .int, accessFlags := 25, slot := 6, constantValue := 0 }, { name := "LOG2_ARRAY_LONG_INDEX_SCALE", type := .int, accessFlags := 25, slot := 7, constantValue := 0 }, { name := "LOG2_ARRAY_FLOAT_INDEX_SCALE", type := .int, accessFlags := 25, slot := 8, constantValue := 0 }, { name := "LOG2_ARRAY_DOUBLE_INDEX_SCALE", type := .int, accessFlags := 25, slot := 9, constantValue := 0 }, { name := "LOG2_BYTE_BIT_SIZE", type := .int, accessFlags := 26, slot := 10, constantValue := 0 }, { name := "T_BOOLEAN", type := .int, accessFlags := 25, slot := 11, constantValue := 0 }, { name := "T_CHAR", type := .int, accessFlags := 25, slot := 12, constantValue := 0 }, { name := "T_FLOAT", type := .int, accessFlags := 25, slot := 13, constantValue := 0 }, { name := "T_DOUBLE", type := .int, accessFlags := 25, slot := 14, constantValue := 0 }, { name := "T_BYTE", type := .int, accessFlags := 25, slot := 15, constantValue := 0 }, { name := "T_SHORT", type := .int, accessFlags := 25, slot := 16, constantValue := 0 }, { name := "T_INT", type := .int, accessFlags := 25, slot := 17, constantValue := 0 }, { name := "T_LONG", type := .int, accessFlags := 25, slot := 18, constantValue := 0 }, { name := "JLA", type := (.object "jdk/internal/access/JavaLangAccess"), accessFlags := 26, slot := 19, constantValue := 0 }, { name := "SOFT_MAX_ARRAY_LENGTH", type := .int, accessFlags := 25, slot := 20, constantValue := 0 }]
  methods := #[k20m0]
  instanceTypes := #[]
  staticTypes := #[(.object "jdk/internal/misc/Unsafe"), .boolean, .int, .int, .int, .int, .int, .int, .int, .int, .int, .int, .int, .int, .int, .int, .int, .int, .int, (.object "jdk/internal/access/JavaLangAccess"), .int]
  resolved := Array.replicate 378 none
  statics := some 4 }

/-- the primitive byte -/
def k21 : Class := { plain "byte" none with kind := .primitive 'B', accessFlags := 0x411 }
/-- [B -/
def k22 : Class := { plain "[B" (some 0) with kind := .array 21 .byte, interfaces := #[11, 2], accessFlags := 1041 }

/-- the primitive char -/
def k23 : Class := { plain "char" none with kind := .primitive 'C', accessFlags := 0x411 }
/-- [C -/
def k24 : Class := { plain "[C" (some 0) with kind := .array 23 .char, interfaces := #[11, 2], accessFlags := 1041 }

/-- the primitive int -/
def k25 : Class := { plain "int" none with kind := .primitive 'I', accessFlags := 0x411 }
/-- [I -/
def k26 : Class := { plain "[I" (some 0) with kind := .array 25 .int, interfaces := #[11, 2], accessFlags := 1041 }

def heap : Heap := #[{ cls := 7, slots := #[.long 0, .int 1, .null, .int 0, .null, .int 0, .int 0], vm := .statics 7 },
  { cls := 12, slots := #[.null, .null, .null, .null, .null, .null, .null, .null, .null, .null, .null, .null, .null, .null, .null, .null, .null, .null, .ref 5, .null, .null, .null, .null, .int 0, .int 0, .long 0, .int 0, .int 0, .int 0, .int 0, .int 0, .int 0, .null, .null, .null, .null, .null, .null, .int 0], vm := .statics 12 },
  { cls := 15, slots := #[.null, .null, .ref 9, .ref 10, .null], vm := .statics 15 },
  { cls := 16, slots := #[.null, .null, .null], vm := .statics 16 },
  { cls := 20, slots := #[.null, .int 0, .int 0, .int 0, .int 0, .int 0, .int 0, .int 0, .int 0, .int 0, .int 0, .int 0, .int 0, .int 0, .int 0, .int 0, .int 0, .int 0, .int 0, .null, .int 2147483639], vm := .statics 20 },
  { cls := 12, slots := #[.ref 6, .null, .int 0, .null], vm := .none },
  { cls := 19, slots := #[.ref 7, .null, .null, .null, .int 0], vm := .none },
  { cls := 7, slots := #[.ref 8, .int 0, .int 0, .int 0], vm := .none },
  { cls := 22, slots := #[], vm := .none },
  { cls := 15, slots := #[], vm := .none },
  { cls := 26, slots := #[.int 1207963663, .int 1207963663, .int 1207963663, .int 1207963663, .int 1207963663, .int 1207963663, .int 1207963663, .int 1207963663, .int 1207963663, .int 1476411407, .int 1342193679, .int 1476411407, .int 1610629135, .int 1342193679, .int 1207963663, .int 1207963663, .int 1207963663, .int 1207963663, .int 1207963663, .int 1207963663, .int 1207963663, .int 1207963663, .int 1207963663, .int 1207963663, .int 1207963663, .int 1207963663, .int 1207963663, .int 1207963663, .int 1342193679, .int 1342193679, .int 1342193679, .int 1476411407, .int 1610629132, .int 1744830488, .int 1744830488, .int 671088664, .int 671113242, .int 671088664, .int 1744830488, .int 1744830488, .int (-402653163), .int (-402653162), .int 1744830488, .int 536870937, .int 939524120, .int 536870932, .int 939524120, .int 939524120, .int 402667017, .int 402667017, .int 402667017, .int 402667017, .int 402667017, .int 402667017, .int 402667017, .int 402667017, .int 402667017, .int 402667017, .int 939524120, .int 1744830488, .int (-402653159), .int 1744830489, .int (-402653159), .int 1744830488, .int 1744830488, .int 8552417, .int 8552417, .int 8552417, .int 8552417, .int 8552417, .int 8552417, .int 8552417, .int 8552417, .int 8552417, .int 8552417, .int 8552417, .int 8552417, .int 8552417, .int 8552417, .int 8552417, .int 8552417, .int 8552417, .int 8552417, .int 8552417, .int 8552417, .int 8552417, .int 8552417, .int 8552417, .int 8552417, .int 8552417, .int 8552417, .int (-402653163), .int 1744830488, .int (-402653162), .int 1744830491, .int 1744850967, .int 1744830491, .int 8486882, .int 8486882, .int 8486882, .int 8486882, .int 8486882, .int 8486882, .int 8486882, .int 8486882, .int 8486882, .int 8486882, .int 8486882, .int 8486882, .int 8486882, .int 8486882, .int 8486882, .int 8486882, .int 8486882, .int 8486882, .int 8486882, .int 8486882, .int 8486882, .int 8486882, .int 8486882, .int 8486882, .int 8486882, .int 8486882, .int (-402653163), .int 1744830489, .int (-402653162), .int 1744830489, .int 1207963663, .int 1207963663, .int 1207963663, .int 1207963663, .int 1207963663, .int 1207963663, .int 1342181391, .int 1207963663, .int 1207963663, .int 1207963663, .int 1207963663, .int 1207963663, .int 1207963663, .int 1207963663, .int 1207963663, .int 1207963663, .int 1207963663, .int 1207963663, .int 1207963663, .int 1207963663, .int 1207963663, .int 1207963663, .int 1207963663, .int 1207963663, .int 1207963663, .int 1207963663, .int 1207963663, .int 1207963663, .int 1207963663, .int 1207963663, .int 1207963663, .int 1207963663, .int 1207963663, .int 939524108, .int 1744830488, .int 671113242, .int 671113242, .int 671113242, .int 671113242, .int 1744830492, .int 1744830488, .int 1744830491, .int 1744830492, .int 28677, .int (-402653155), .int 1744830489, .int 1207963664, .int 1744830492, .int 1744830491, .int 671088668, .int 671088665, .int 402654731, .int 402654731, .int 1744830491, .int 134049794, .int 1744830488, .int 1744830488, .int 1744830491, .int 402654475, .int 28677, .int (-402653154), .int 1744832523, .int 1744832523, .int 1744832523, .int 1744830488, .int 8548353, .int 8548353, .int 8548353, .int 8548353, .int 8548353, .int 8548353, .int 8548353, .int 8548353, .int 8548353, .int 8548353, .int 8548353, .int 8548353, .int 8548353, .int 8548353, .int 8548353, .int 8548353, .int 8548353, .int 8548353, .int 8548353, .int 8548353, .int 8548353, .int 8548353, .int 8548353, .int 1744830489, .int 8548353, .int 8548353, .int 8548353, .int 8548353, .int 8548353, .int 8548353, .int 8548353, .int 134049794, .int 8482818, .int 8482818, .int 8482818, .int 8482818, .int 8482818, .int 8482818, .int 8482818, .int 8482818, .int 8482818, .int 8482818, .int 8482818, .int 8482818, .int 8482818, .int 8482818, .int 8482818, .int 8482818, .int 8482818, .int 8482818, .int 8482818, .int 8482818, .int 8482818, .int 8482818, .int 8482818, .int 1744830489, .int 8482818, .int 8482818, .int 8482818, .int 8482818, .int 8482818, .int 8482818, .int 8482818, .int 102592514], vm := .none }]
def classes : Array Class := #[k0, k1, k2, k3, k4, k5, k6, k7, k8, k9, k10, k11, k12, k13, k14, k15, k16, k17, k18, k19, k20, k21, k22, k23, k24, k25, k26]
def interned : List (Array UInt16 × Addr) := []
def slotsUsed : Nat := 344
def theMethod : MethodId := ⟨1, 1⟩
def args0 : Array Value := #[.int 0, .int 0, .int 0]
def aboutOver (below : List Frame) : State where
  vm := { classes := classes, interned := interned.toArray }
  heap := heap
  slotsUsed := slotsUsed
  threads := #[{ frames := .invoking theMethod args0 :: below }]
def below0 : List Frame := [.native { method := ⟨0, 0⟩, args := #[] }]
def about1 : State := aboutOver below0
def p0 : Program := .bare "" "" ""
def e0 : Env := launch0.env 0 0 0
theorem w_frames : about1.frames = Frame.invoking theMethod args0 :: below0 := rfl
set_option maxRecDepth 65536 in
theorem w_args : argsFit about1.vm theMethod args0 = true := by decide +kernel
set_option maxRecDepth 65536 in
theorem w_heap : heapFits about1 = true := by decide +kernel
set_option maxRecDepth 65536 in
theorem w_runnable : about1.curStatus? = some .runnable := by decide +kernel
set_option maxRecDepth 65536 in
theorem w_alone : about1.alone = true := by decide +kernel
set_option maxRecDepth 65536 in
theorem w_named : about1.methodNamed? x = some theMethod := by decide +kernel
set_option maxRecDepth 65536 in
theorem w_hears : about1.hears theMethod below0 = true := by decide +kernel
set_option maxRecDepth 65536 in
theorem w_ripe : about1.ripe theMethod args0 below0 = true := by decide +kernel
theorem w_running : about1.status = .running := rfl
set_option maxRecDepth 65536 in
theorem w_room : about1.hasRoom e0.platform room_1 = true :=
  launch0.hasRoom_least _ room_1 (by decide +kernel) (by decide +kernel) (by decide +kernel) (by decide +kernel) (by decide +kernel) (by decide +kernel)
theorem allAtoms_all (ts : List Jvm.Cond) (a : Array Jvm.Value) (st : Jvm.State) : (allAtoms ts).before a st = ts.all (fun c => c.before a st) := by
  induction ts with
  | nil => rfl
  | cons c t ih =>
    show (Jvm.Cond.and c (allAtoms t)).before a st = _
    rw [Jvm.Cond.before_and, ih, List.all_cons]
def words1 : List Jvm.Cond := Jvm.Cond.code x code maxLocals ret :: tables_1
/-- a 'code' word, met by the world's own term for the bytes: nothing is compared byte by byte -/
theorem code_word {y : MethodName} {bytes : ByteArray} {mx : Nat} {rt : Option FieldType} {a : Array Value} {s : State} {m : MethodId} {meth : Method} {c : Code} (h1 : s.methodNamed? y = some m) (h2 : s.vm.method? m = some meth) (h3 : meth.code = some c) (h4 : c.code = bytes)
    (h5 : (c.maxLocals == mx && c.exceptionTable.isEmpty && decide (c.maxStack ≤ mostOperands) && decide (meth.sig.returnType = rt) && !meth.locks && decide (parseMethodDescriptor y.desc = some meth.sig)) = true) : (Jvm.Cond.code y bytes mx rt).before a s = true := by
  simp only [Bool.and_eq_true, beq_iff_eq, Bool.not_eq_true', decide_eq_true_eq] at h5
  obtain ⟨⟨⟨⟨⟨g1, g2⟩, g3⟩, g4⟩, g5⟩, g6⟩ := h5
  simp [Cond.before, Cond.holds, Cond.value, h1, h2, h3, h4, g1, g2, g3, g4, g5, g6]
def isCode : Jvm.Cond → Bool
  | .code _ _ _ _ => true
  | _ => false
theorem all_split {L : List Jvm.Cond} {P : Jvm.Cond → Bool} (h1 : L.all (fun c => isCode c || P c) = true) (h2 : ∀ c ∈ L.filter isCode, P c = true) : L.all P = true := by
  refine List.all_eq_true.mpr fun c hc => ?_
  have h := List.all_eq_true.mp h1 c hc
  rcases Bool.eq_false_or_eq_true (isCode c) with hi | hi
  · exact h2 c (List.mem_filter.mpr ⟨hc, hi⟩)
  · simpa [hi] using h
set_option maxRecDepth 65536 in
theorem w_c0 : (Jvm.Cond.code x code maxLocals ret).before args0 about1 = true := code_word (m := ⟨1, 1⟩) (meth := k1m1) (c := k1c1) (by decide +kernel) rfl rfl rfl (by decide +kernel)
set_option maxRecDepth 65536 in
theorem w_c1 : (Jvm.Cond.code ({ cls := "com/example/tributary/tributary/MediaTypesOfPinLaw", name := "pick", desc := "(III)C" } : Jvm.MethodName) method_3_code (4 : Nat) (Option.some Jvm.ClassFile.FieldType.char)).before args0 about1 = true := code_word (m := ⟨1, 2⟩) (meth := k1m2) (c := k1c2) (by decide +kernel) rfl rfl rfl (by decide +kernel)
set_option maxRecDepth 65536 in
theorem w_c2 : (Jvm.Cond.code ({ cls := "com/example/tributary/tributary/MediaTypesOfPinLaw", name := "make", desc := "(ICCCC)Ljava/lang/String;" } : Jvm.MethodName) method_6_code (5 : Nat) (Option.some (Jvm.ClassFile.FieldType.object "java/lang/String"))).before args0 about1 = true := code_word (m := ⟨1, 5⟩) (meth := k1m5) (c := k1c5) (by decide +kernel) rfl rfl rfl (by decide +kernel)
set_option maxRecDepth 65536 in
theorem w_c3 : (Jvm.Cond.code ({ cls := "com/example/tributary/tributary/MediaTypes", name := "of", desc := "(Ljava/lang/String;)Ljava/lang/String;" } : Jvm.MethodName) prog_4_method_2_code (2 : Nat) (Option.some (Jvm.ClassFile.FieldType.object "java/lang/String"))).before args0 about1 = true := code_word (m := ⟨8, 1⟩) (meth := k8m1) (c := k8c1) (by decide +kernel) rfl rfl rfl (by decide +kernel)
set_option maxRecDepth 65536 in
theorem w_c4 : (Jvm.Cond.code ({ cls := "java/lang/String", name := "indexOf", desc := "(I)I" } : Jvm.MethodName) jdk_42_method_79_code (2 : Nat) (Option.some Jvm.ClassFile.FieldType.int)).before args0 about1 = true := code_word (m := ⟨7, 4⟩) (meth := k7m4) (c := k7c4) (by decide +kernel) rfl rfl rfl (by decide +kernel)
set_option maxRecDepth 65536 in
theorem w_c5 : (Jvm.Cond.code ({ cls := "java/lang/String", name := "indexOf", desc := "(II)I" } : Jvm.MethodName) jdk_42_method_80_code (3 : Nat) (Option.some Jvm.ClassFile.FieldType.int)).before args0 about1 = true := code_word (m := ⟨7, 5⟩) (meth := k7m5) (c := k7c5) (by decide +kernel) rfl rfl rfl (by decide +kernel)
set_option maxRecDepth 65536 in
theorem w_c6 : (Jvm.Cond.code ({ cls := "java/lang/String", name := "isLatin1", desc := "()Z" } : Jvm.MethodName) jdk_42_method_154_code (1 : Nat) (Option.some Jvm.ClassFile.FieldType.boolean)).before args0 about1 = true := code_word (m := ⟨7, 12⟩) (meth := k7m12) (c := k7c12) (by decide +kernel) rfl rfl rfl (by decide +kernel)
set_option maxRecDepth 65536 in
theorem w_c7 : (Jvm.Cond.code ({ cls := "java/lang/String", name := "length", desc := "()I" } : Jvm.MethodName) jdk_42_method_54_code (1 : Nat) (Option.some Jvm.ClassFile.FieldType.int)).before args0 about1 = true := code_word (m := ⟨7, 2⟩) (meth := k7m2) (c := k7c2) (by decide +kernel) rfl rfl rfl (by decide +kernel)
set_option maxRecDepth 65536 in
theorem w_c8 : (Jvm.Cond.code ({ cls := "java/lang/String", name := "coder", desc := "()B" } : Jvm.MethodName) jdk_42_method_152_code (1 : Nat) (Option.some Jvm.ClassFile.FieldType.byte)).before args0 about1 = true := code_word (m := ⟨7, 11⟩) (meth := k7m11) (c := k7c11) (by decide +kernel) rfl rfl rfl (by decide +kernel)
set_option maxRecDepth 65536 in
theorem w_c9 : (Jvm.Cond.code ({ cls := "java/lang/StringLatin1", name := "indexOf", desc := "([BIII)I" } : Jvm.MethodName) jdk_43_method_22_code (4 : Nat) (Option.some Jvm.ClassFile.FieldType.int)).before args0 about1 = true := code_word (m := ⟨9, 3⟩) (meth := k9m3) (c := k9c3) (by decide +kernel) rfl rfl rfl (by decide +kernel)
set_option maxRecDepth 65536 in
theorem w_c10 : (Jvm.Cond.code ({ cls := "java/lang/StringLatin1", name := "canEncode", desc := "(I)Z" } : Jvm.MethodName) jdk_43_method_4_code (1 : Nat) (Option.some Jvm.ClassFile.FieldType.boolean)).before args0 about1 = true := code_word (m := ⟨9, 1⟩) (meth := k9m1) (c := k9c1) (by decide +kernel) rfl rfl rfl (by decide +kernel)
set_option maxRecDepth 65536 in
theorem w_c11 : (Jvm.Cond.code ({ cls := "java/lang/Math", name := "max", desc := "(II)I" } : Jvm.MethodName) jdk_29_method_65_code (2 : Nat) (Option.some Jvm.ClassFile.FieldType.int)).before args0 about1 = true := code_word (m := ⟨10, 1⟩) (meth := k10m1) (c := k10c1) (by decide +kernel) rfl rfl rfl (by decide +kernel)
set_option maxRecDepth 65536 in
theorem w_c12 : (Jvm.Cond.code ({ cls := "java/lang/Math", name := "min", desc := "(II)I" } : Jvm.MethodName) jdk_29_method_69_code (2 : Nat) (Option.some Jvm.ClassFile.FieldType.int)).before args0 about1 = true := code_word (m := ⟨10, 2⟩) (meth := k10m2) (c := k10c2) (by decide +kernel) rfl rfl rfl (by decide +kernel)
set_option maxRecDepth 65536 in
theorem w_c13 : (Jvm.Cond.code ({ cls := "java/lang/String", name := "strip", desc := "()Ljava/lang/String;" } : Jvm.MethodName) jdk_42_method_114_code (2 : Nat) (Option.some (Jvm.ClassFile.FieldType.object "java/lang/String"))).before args0 about1 = true := code_word (m := ⟨7, 8⟩) (meth := k7m8) (c := k7c8) (by decide +kernel) rfl rfl rfl (by decide +kernel)
set_option maxRecDepth 65536 in
theorem w_c14 : (Jvm.Cond.code ({ cls := "java/lang/StringLatin1", name := "strip", desc := "([B)Ljava/lang/String;" } : Jvm.MethodName) jdk_43_method_39_code (4 : Nat) (Option.some (Jvm.ClassFile.FieldType.object "java/lang/String"))).before args0 about1 = true := code_word (m := ⟨9, 8⟩) (meth := k9m8) (c := k9c8) (by decide +kernel) rfl rfl rfl (by decide +kernel)
set_option maxRecDepth 65536 in
theorem w_c15 : (Jvm.Cond.code ({ cls := "java/lang/StringLatin1", name := "indexOfNonWhitespace", desc := "([B)I" } : Jvm.MethodName) jdk_43_method_37_code (4 : Nat) (Option.some Jvm.ClassFile.FieldType.int)).before args0 about1 = true := code_word (m := ⟨9, 6⟩) (meth := k9m6) (c := k9c6) (by decide +kernel) rfl rfl rfl (by decide +kernel)
set_option maxRecDepth 65536 in
theorem w_c16 : (Jvm.Cond.code ({ cls := "java/lang/String", name := "toLowerCase", desc := "(Ljava/util/Locale;)Ljava/lang/String;" } : Jvm.MethodName) jdk_42_method_109_code (2 : Nat) (Option.some (Jvm.ClassFile.FieldType.object "java/lang/String"))).before args0 about1 = true := code_word (m := ⟨7, 7⟩) (meth := k7m7) (c := k7c7) (by decide +kernel) rfl rfl rfl (by decide +kernel)
set_option maxRecDepth 65536 in
theorem w_c17 : (Jvm.Cond.code ({ cls := "java/lang/StringLatin1", name := "toLowerCase", desc := "(Ljava/lang/String;[BLjava/util/Locale;)Ljava/lang/String;" } : Jvm.MethodName) jdk_43_method_32_code (9 : Nat) (Option.some (Jvm.ClassFile.FieldType.object "java/lang/String"))).before args0 about1 = true := code_word (m := ⟨9, 5⟩) (meth := k9m5) (c := k9c5) (by decide +kernel) rfl rfl rfl (by decide +kernel)
set_option maxRecDepth 65536 in
theorem w_c18 : (Jvm.Cond.code ({ cls := "java/lang/String", name := "equals", desc := "(Ljava/lang/Object;)Z" } : Jvm.MethodName) jdk_42_method_66_code (3 : Nat) (Option.some Jvm.ClassFile.FieldType.boolean)).before args0 about1 = true := code_word (m := ⟨7, 3⟩) (meth := k7m3) (c := k7c3) (by decide +kernel) rfl rfl rfl (by decide +kernel)
set_option maxRecDepth 65536 in
theorem w_c19 : (Jvm.Cond.code ({ cls := "java/lang/String", name := "<init>", desc := "([C)V" } : Jvm.MethodName) jdk_42_method_3_code (2 : Nat) (Option.none : Option Jvm.ClassFile.FieldType)).before args0 about1 = true := code_word (m := ⟨7, 1⟩) (meth := k7m1) (c := k7c1) (by decide +kernel) rfl rfl rfl (by decide +kernel)
set_option maxRecDepth 65536 in
theorem w_c20 : (Jvm.Cond.code ({ cls := "java/lang/String", name := "<init>", desc := "([CIILjava/lang/Void;)V" } : Jvm.MethodName) jdk_42_method_149_code (6 : Nat) (Option.none : Option Jvm.ClassFile.FieldType)).before args0 about1 = true := code_word (m := ⟨7, 9⟩) (meth := k7m9) (c := k7c9) (by decide +kernel) rfl rfl rfl (by decide +kernel)
set_option maxRecDepth 65536 in
theorem w_c21 : (Jvm.Cond.code ({ cls := "java/lang/Object", name := "<init>", desc := "()V" } : Jvm.MethodName) object_method_1_code (1 : Nat) (Option.none : Option Jvm.ClassFile.FieldType)).before args0 about1 = true := code_word (m := ⟨0, 0⟩) (meth := k0m0) (c := k0c0) (by decide +kernel) rfl rfl rfl (by decide +kernel)
set_option maxRecDepth 65536 in
theorem w_c22 : (Jvm.Cond.code ({ cls := "java/lang/StringUTF16", name := "compress", desc := "([CII)[B" } : Jvm.MethodName) jdk_52_method_16_code (6 : Nat) (Option.some (Jvm.ClassFile.FieldType.array Jvm.ClassFile.FieldType.byte))).before args0 about1 = true := code_word (m := ⟨13, 2⟩) (meth := k13m2) (c := k13c2) (by decide +kernel) rfl rfl rfl (by decide +kernel)
set_option maxRecDepth 65536 in
theorem w_c23 : (Jvm.Cond.code ({ cls := "java/lang/StringUTF16", name := "compress", desc := "([CI[BII)I" } : Jvm.MethodName) jdk_52_method_21_code (7 : Nat) (Option.some Jvm.ClassFile.FieldType.int)).before args0 about1 = true := code_word (m := ⟨13, 3⟩) (meth := k13m3) (c := k13c3) (by decide +kernel) rfl rfl rfl (by decide +kernel)
set_option maxRecDepth 65536 in
theorem w_c24 : (Jvm.Cond.code ({ cls := "java/lang/StringUTF16", name := "coderFromArrayLen", desc := "([BI)B" } : Jvm.MethodName) jdk_52_method_15_code (2 : Nat) (Option.some Jvm.ClassFile.FieldType.byte)).before args0 about1 = true := code_word (m := ⟨13, 1⟩) (meth := k13m1) (c := k13c1) (by decide +kernel) rfl rfl rfl (by decide +kernel)
set_option maxRecDepth 65536 in
theorem w_c25 : (Jvm.Cond.code ({ cls := "java/lang/StringLatin1", name := "indexOfChar", desc := "([BIII)I" } : Jvm.MethodName) jdk_43_method_23_code (6 : Nat) (Option.some Jvm.ClassFile.FieldType.int)).before args0 about1 = true := code_word (m := ⟨9, 4⟩) (meth := k9m4) (c := k9c4) (by decide +kernel) rfl rfl rfl (by decide +kernel)
set_option maxRecDepth 65536 in
theorem w_c26 : (Jvm.Cond.code ({ cls := "java/lang/StringLatin1", name := "getChar", desc := "([BI)C" } : Jvm.MethodName) jdk_43_method_44_code (2 : Nat) (Option.some Jvm.ClassFile.FieldType.char)).before args0 about1 = true := code_word (m := ⟨9, 9⟩) (meth := k9m9) (c := k9c9) (by decide +kernel) rfl rfl rfl (by decide +kernel)
set_option maxRecDepth 65536 in
theorem w_c27 : (Jvm.Cond.code ({ cls := "java/lang/CharacterDataLatin1", name := "isWhitespace", desc := "(I)Z" } : Jvm.MethodName) jdk_116_method_26_code (3 : Nat) (Option.some Jvm.ClassFile.FieldType.boolean)).before args0 about1 = true := code_word (m := ⟨15, 2⟩) (meth := k15m2) (c := k15c2) (by decide +kernel) rfl rfl rfl (by decide +kernel)
set_option maxRecDepth 65536 in
theorem w_c28 : (Jvm.Cond.code ({ cls := "java/lang/CharacterDataLatin1", name := "getProperties", desc := "(I)I" } : Jvm.MethodName) jdk_116_method_1_code (4 : Nat) (Option.some Jvm.ClassFile.FieldType.int)).before args0 about1 = true := code_word (m := ⟨15, 0⟩) (meth := k15m0) (c := k15c0) (by decide +kernel) rfl rfl rfl (by decide +kernel)
set_option maxRecDepth 65536 in
theorem w_c29 : (Jvm.Cond.code ({ cls := "com/example/tributary/tributary/MediaTypesOfPinLaw", name := "ws", desc := "(C)Z" } : Jvm.MethodName) method_4_code (1 : Nat) (Option.some Jvm.ClassFile.FieldType.boolean)).before args0 about1 = true := code_word (m := ⟨1, 3⟩) (meth := k1m3) (c := k1c3) (by decide +kernel) rfl rfl rfl (by decide +kernel)
set_option maxRecDepth 65536 in
theorem w_c30 : (Jvm.Cond.code ({ cls := "java/lang/String", name := "substring", desc := "(II)Ljava/lang/String;" } : Jvm.MethodName) jdk_42_method_92_code (5 : Nat) (Option.some (Jvm.ClassFile.FieldType.object "java/lang/String"))).before args0 about1 = true := code_word (m := ⟨7, 6⟩) (meth := k7m6) (c := k7c6) (by decide +kernel) rfl rfl rfl (by decide +kernel)
set_option maxRecDepth 65536 in
theorem w_c31 : (Jvm.Cond.code ({ cls := "java/lang/String", name := "checkBoundsBeginEnd", desc := "(III)V" } : Jvm.MethodName) jdk_42_method_158_code (3 : Nat) (Option.none : Option Jvm.ClassFile.FieldType)).before args0 about1 = true := code_word (m := ⟨7, 13⟩) (meth := k7m13) (c := k7c13) (by decide +kernel) rfl rfl rfl (by decide +kernel)
set_option maxRecDepth 65536 in
theorem w_c32 : (Jvm.Cond.code ({ cls := "jdk/internal/util/Preconditions", name := "checkFromToIndex", desc := "(IIILjava/util/function/BiFunction;)I" } : Jvm.MethodName) jdk_41_method_12_code (4 : Nat) (Option.some Jvm.ClassFile.FieldType.int)).before args0 about1 = true := code_word (m := ⟨16, 1⟩) (meth := k16m1) (c := k16c1) (by decide +kernel) rfl rfl rfl (by decide +kernel)
set_option maxRecDepth 65536 in
theorem w_c33 : (Jvm.Cond.code ({ cls := "java/lang/StringLatin1", name := "newString", desc := "([BII)Ljava/lang/String;" } : Jvm.MethodName) jdk_43_method_47_code (3 : Nat) (Option.some (Jvm.ClassFile.FieldType.object "java/lang/String"))).before args0 about1 = true := code_word (m := ⟨9, 10⟩) (meth := k9m10) (c := k9c10) (by decide +kernel) rfl rfl rfl (by decide +kernel)
set_option maxRecDepth 65536 in
theorem w_c34 : (Jvm.Cond.code ({ cls := "java/util/Arrays", name := "copyOfRange", desc := "([BII)[B" } : Jvm.MethodName) jdk_65_method_132_code (3 : Nat) (Option.some (Jvm.ClassFile.FieldType.array Jvm.ClassFile.FieldType.byte))).before args0 about1 = true := code_word (m := ⟨17, 2⟩) (meth := k17m2) (c := k17c2) (by decide +kernel) rfl rfl rfl (by decide +kernel)
set_option maxRecDepth 65536 in
theorem w_c35 : (Jvm.Cond.code ({ cls := "java/util/Arrays", name := "copyOfRangeByte", desc := "([BII)[B" } : Jvm.MethodName) jdk_65_method_133_code (5 : Nat) (Option.some (Jvm.ClassFile.FieldType.array Jvm.ClassFile.FieldType.byte))).before args0 about1 = true := code_word (m := ⟨17, 3⟩) (meth := k17m3) (c := k17c3) (by decide +kernel) rfl rfl rfl (by decide +kernel)
set_option maxRecDepth 65536 in
theorem w_c36 : (Jvm.Cond.code ({ cls := "java/util/Arrays", name := "checkLength", desc := "(II)V" } : Jvm.MethodName) jdk_65_method_131_code (2 : Nat) (Option.none : Option Jvm.ClassFile.FieldType)).before args0 about1 = true := code_word (m := ⟨17, 1⟩) (meth := k17m1) (c := k17c1) (by decide +kernel) rfl rfl rfl (by decide +kernel)
set_option maxRecDepth 65536 in
theorem w_c37 : (Jvm.Cond.code ({ cls := "java/lang/String", name := "<init>", desc := "([BB)V" } : Jvm.MethodName) jdk_42_method_151_code (3 : Nat) (Option.none : Option Jvm.ClassFile.FieldType)).before args0 about1 = true := code_word (m := ⟨7, 10⟩) (meth := k7m10) (c := k7c10) (by decide +kernel) rfl rfl rfl (by decide +kernel)
set_option maxRecDepth 65536 in
theorem w_c38 : (Jvm.Cond.code ({ cls := "java/lang/StringLatin1", name := "lastIndexOfNonWhitespace", desc := "([B)I" } : Jvm.MethodName) jdk_43_method_38_code (4 : Nat) (Option.some Jvm.ClassFile.FieldType.int)).before args0 about1 = true := code_word (m := ⟨9, 7⟩) (meth := k9m7) (c := k9c7) (by decide +kernel) rfl rfl rfl (by decide +kernel)
set_option maxRecDepth 65536 in
theorem w_c39 : (Jvm.Cond.code ({ cls := "java/lang/CharacterDataLatin1", name := "toLowerCase", desc := "(I)I" } : Jvm.MethodName) jdk_116_method_20_code (3 : Nat) (Option.some Jvm.ClassFile.FieldType.int)).before args0 about1 = true := code_word (m := ⟨15, 1⟩) (meth := k15m1) (c := k15c1) (by decide +kernel) rfl rfl rfl (by decide +kernel)
set_option maxRecDepth 65536 in
theorem w_c40 : (Jvm.Cond.code ({ cls := "java/util/Locale", name := "getLanguage", desc := "()Ljava/lang/String;" } : Jvm.MethodName) jdk_2628_method_27_code (1 : Nat) (Option.some (Jvm.ClassFile.FieldType.object "java/lang/String"))).before args0 about1 = true := code_word (m := ⟨12, 0⟩) (meth := k12m0) (c := k12c0) (by decide +kernel) rfl rfl rfl (by decide +kernel)
set_option maxRecDepth 65536 in
theorem w_c41 : (Jvm.Cond.code ({ cls := "sun/util/locale/BaseLocale", name := "getLanguage", desc := "()Ljava/lang/String;" } : Jvm.MethodName) jdk_3003_method_5_code (1 : Nat) (Option.some (Jvm.ClassFile.FieldType.object "java/lang/String"))).before args0 about1 = true := code_word (m := ⟨19, 0⟩) (meth := k19m0) (c := k19c0) (by decide +kernel) rfl rfl rfl (by decide +kernel)
set_option maxRecDepth 65536 in
theorem w_c42 : (Jvm.Cond.code ({ cls := "com/example/tributary/tributary/MediaTypesOfPinLaw", name := "lower", desc := "(C)C" } : Jvm.MethodName) method_5_code (1 : Nat) (Option.some Jvm.ClassFile.FieldType.char)).before args0 about1 = true := code_word (m := ⟨1, 4⟩) (meth := k1m4) (c := k1c4) (by decide +kernel) rfl rfl rfl (by decide +kernel)
set_option maxRecDepth 65536 in
theorem w_c43 : (Jvm.Cond.code ({ cls := "java/lang/StringLatin1", name := "equals", desc := "([B[B)Z" } : Jvm.MethodName) jdk_43_method_13_code (3 : Nat) (Option.some Jvm.ClassFile.FieldType.boolean)).before args0 about1 = true := code_word (m := ⟨9, 2⟩) (meth := k9m2) (c := k9c2) (by decide +kernel) rfl rfl rfl (by decide +kernel)
def codes1 : List Jvm.Cond := [Jvm.Cond.code x code maxLocals ret, Jvm.Cond.code ({ cls := "com/example/tributary/tributary/MediaTypesOfPinLaw", name := "pick", desc := "(III)C" } : Jvm.MethodName) method_3_code (4 : Nat) (Option.some Jvm.ClassFile.FieldType.char), Jvm.Cond.code ({ cls := "com/example/tributary/tributary/MediaTypesOfPinLaw", name := "make", desc := "(ICCCC)Ljava/lang/String;" } : Jvm.MethodName) method_6_code (5 : Nat) (Option.some (Jvm.ClassFile.FieldType.object "java/lang/String")), Jvm.Cond.code ({ cls := "com/example/tributary/tributary/MediaTypes", name := "of", desc := "(Ljava/lang/String;)Ljava/lang/String;" } : Jvm.MethodName) prog_4_method_2_code (2 : Nat) (Option.some (Jvm.ClassFile.FieldType.object "java/lang/String")), Jvm.Cond.code ({ cls := "java/lang/String", name := "indexOf", desc := "(I)I" } : Jvm.MethodName) jdk_42_method_79_code (2 : Nat) (Option.some Jvm.ClassFile.FieldType.int), Jvm.Cond.code ({ cls := "java/lang/String", name := "indexOf", desc := "(II)I" } : Jvm.MethodName) jdk_42_method_80_code (3 : Nat) (Option.some Jvm.ClassFile.FieldType.int), Jvm.Cond.code ({ cls := "java/lang/String", name := "isLatin1", desc := "()Z" } : Jvm.MethodName) jdk_42_method_154_code (1 : Nat) (Option.some Jvm.ClassFile.FieldType.boolean), Jvm.Cond.code ({ cls := "java/lang/String", name := "length", desc := "()I" } : Jvm.MethodName) jdk_42_method_54_code (1 : Nat) (Option.some Jvm.ClassFile.FieldType.int), Jvm.Cond.code ({ cls := "java/lang/String", name := "coder", desc := "()B" } : Jvm.MethodName) jdk_42_method_152_code (1 : Nat) (Option.some Jvm.ClassFile.FieldType.byte), Jvm.Cond.code ({ cls := "java/lang/StringLatin1", name := "indexOf", desc := "([BIII)I" } : Jvm.MethodName) jdk_43_method_22_code (4 : Nat) (Option.some Jvm.ClassFile.FieldType.int), Jvm.Cond.code ({ cls := "java/lang/StringLatin1", name := "canEncode", desc := "(I)Z" } : Jvm.MethodName) jdk_43_method_4_code (1 : Nat) (Option.some Jvm.ClassFile.FieldType.boolean), Jvm.Cond.code ({ cls := "java/lang/Math", name := "max", desc := "(II)I" } : Jvm.MethodName) jdk_29_method_65_code (2 : Nat) (Option.some Jvm.ClassFile.FieldType.int), Jvm.Cond.code ({ cls := "java/lang/Math", name := "min", desc := "(II)I" } : Jvm.MethodName) jdk_29_method_69_code (2 : Nat) (Option.some Jvm.ClassFile.FieldType.int), Jvm.Cond.code ({ cls := "java/lang/String", name := "strip", desc := "()Ljava/lang/String;" } : Jvm.MethodName) jdk_42_method_114_code (2 : Nat) (Option.some (Jvm.ClassFile.FieldType.object "java/lang/String")), Jvm.Cond.code ({ cls := "java/lang/StringLatin1", name := "strip", desc := "([B)Ljava/lang/String;" } : Jvm.MethodName) jdk_43_method_39_code (4 : Nat) (Option.some (Jvm.ClassFile.FieldType.object "java/lang/String")), Jvm.Cond.code ({ cls := "java/lang/StringLatin1", name := "indexOfNonWhitespace", desc := "([B)I" } : Jvm.MethodName) jdk_43_method_37_code (4 : Nat) (Option.some Jvm.ClassFile.FieldType.int), Jvm.Cond.code ({ cls := "java/lang/String", name := "toLowerCase", desc := "(Ljava/util/Locale;)Ljava/lang/String;" } : Jvm.MethodName) jdk_42_method_109_code (2 : Nat) (Option.some (Jvm.ClassFile.FieldType.object "java/lang/String")), Jvm.Cond.code ({ cls := "java/lang/StringLatin1", name := "toLowerCase", desc := "(Ljava/lang/String;[BLjava/util/Locale;)Ljava/lang/String;" } : Jvm.MethodName) jdk_43_method_32_code (9 : Nat) (Option.some (Jvm.ClassFile.FieldType.object "java/lang/String")), Jvm.Cond.code ({ cls := "java/lang/String", name := "equals", desc := "(Ljava/lang/Object;)Z" } : Jvm.MethodName) jdk_42_method_66_code (3 : Nat) (Option.some Jvm.ClassFile.FieldType.boolean), Jvm.Cond.code ({ cls := "java/lang/String", name := "<init>", desc := "([C)V" } : Jvm.MethodName) jdk_42_method_3_code (2 : Nat) (Option.none : Option Jvm.ClassFile.FieldType), Jvm.Cond.code ({ cls := "java/lang/String", name := "<init>", desc := "([CIILjava/lang/Void;)V" } : Jvm.MethodName) jdk_42_method_149_code (6 : Nat) (Option.none : Option Jvm.ClassFile.FieldType), Jvm.Cond.code ({ cls := "java/lang/Object", name := "<init>", desc := "()V" } : Jvm.MethodName) object_method_1_code (1 : Nat) (Option.none : Option Jvm.ClassFile.FieldType), Jvm.Cond.code ({ cls := "java/lang/StringUTF16", name := "compress", desc := "([CII)[B" } : Jvm.MethodName) jdk_52_method_16_code (6 : Nat) (Option.some (Jvm.ClassFile.FieldType.array Jvm.ClassFile.FieldType.byte)), Jvm.Cond.code ({ cls := "java/lang/StringUTF16", name := "compress", desc := "([CI[BII)I" } : Jvm.MethodName) jdk_52_method_21_code (7 : Nat) (Option.some Jvm.ClassFile.FieldType.int), Jvm.Cond.code ({ cls := "java/lang/StringUTF16", name := "coderFromArrayLen", desc := "([BI)B" } : Jvm.MethodName) jdk_52_method_15_code (2 : Nat) (Option.some Jvm.ClassFile.FieldType.byte), Jvm.Cond.code ({ cls := "java/lang/StringLatin1", name := "indexOfChar", desc := "([BIII)I" } : Jvm.MethodName) jdk_43_method_23_code (6 : Nat) (Option.some Jvm.ClassFile.FieldType.int), Jvm.Cond.code ({ cls := "java/lang/StringLatin1", name := "getChar", desc := "([BI)C" } : Jvm.MethodName) jdk_43_method_44_code (2 : Nat) (Option.some Jvm.ClassFile.FieldType.char), Jvm.Cond.code ({ cls := "java/lang/CharacterDataLatin1", name := "isWhitespace", desc := "(I)Z" } : Jvm.MethodName) jdk_116_method_26_code (3 : Nat) (Option.some Jvm.ClassFile.FieldType.boolean), Jvm.Cond.code ({ cls := "java/lang/CharacterDataLatin1", name := "getProperties", desc := "(I)I" } : Jvm.MethodName) jdk_116_method_1_code (4 : Nat) (Option.some Jvm.ClassFile.FieldType.int), Jvm.Cond.code ({ cls := "com/example/tributary/tributary/MediaTypesOfPinLaw", name := "ws", desc := "(C)Z" } : Jvm.MethodName) method_4_code (1 : Nat) (Option.some Jvm.ClassFile.FieldType.boolean), Jvm.Cond.code ({ cls := "java/lang/String", name := "substring", desc := "(II)Ljava/lang/String;" } : Jvm.MethodName) jdk_42_method_92_code (5 : Nat) (Option.some (Jvm.ClassFile.FieldType.object "java/lang/String")), Jvm.Cond.code ({ cls := "java/lang/String", name := "checkBoundsBeginEnd", desc := "(III)V" } : Jvm.MethodName) jdk_42_method_158_code (3 : Nat) (Option.none : Option Jvm.ClassFile.FieldType), Jvm.Cond.code ({ cls := "jdk/internal/util/Preconditions", name := "checkFromToIndex", desc := "(IIILjava/util/function/BiFunction;)I" } : Jvm.MethodName) jdk_41_method_12_code (4 : Nat) (Option.some Jvm.ClassFile.FieldType.int), Jvm.Cond.code ({ cls := "java/lang/StringLatin1", name := "newString", desc := "([BII)Ljava/lang/String;" } : Jvm.MethodName) jdk_43_method_47_code (3 : Nat) (Option.some (Jvm.ClassFile.FieldType.object "java/lang/String")), Jvm.Cond.code ({ cls := "java/util/Arrays", name := "copyOfRange", desc := "([BII)[B" } : Jvm.MethodName) jdk_65_method_132_code (3 : Nat) (Option.some (Jvm.ClassFile.FieldType.array Jvm.ClassFile.FieldType.byte)), Jvm.Cond.code ({ cls := "java/util/Arrays", name := "copyOfRangeByte", desc := "([BII)[B" } : Jvm.MethodName) jdk_65_method_133_code (5 : Nat) (Option.some (Jvm.ClassFile.FieldType.array Jvm.ClassFile.FieldType.byte)), Jvm.Cond.code ({ cls := "java/util/Arrays", name := "checkLength", desc := "(II)V" } : Jvm.MethodName) jdk_65_method_131_code (2 : Nat) (Option.none : Option Jvm.ClassFile.FieldType), Jvm.Cond.code ({ cls := "java/lang/String", name := "<init>", desc := "([BB)V" } : Jvm.MethodName) jdk_42_method_151_code (3 : Nat) (Option.none : Option Jvm.ClassFile.FieldType), Jvm.Cond.code ({ cls := "java/lang/StringLatin1", name := "lastIndexOfNonWhitespace", desc := "([B)I" } : Jvm.MethodName) jdk_43_method_38_code (4 : Nat) (Option.some Jvm.ClassFile.FieldType.int), Jvm.Cond.code ({ cls := "java/lang/CharacterDataLatin1", name := "toLowerCase", desc := "(I)I" } : Jvm.MethodName) jdk_116_method_20_code (3 : Nat) (Option.some Jvm.ClassFile.FieldType.int), Jvm.Cond.code ({ cls := "java/util/Locale", name := "getLanguage", desc := "()Ljava/lang/String;" } : Jvm.MethodName) jdk_2628_method_27_code (1 : Nat) (Option.some (Jvm.ClassFile.FieldType.object "java/lang/String")), Jvm.Cond.code ({ cls := "sun/util/locale/BaseLocale", name := "getLanguage", desc := "()Ljava/lang/String;" } : Jvm.MethodName) jdk_3003_method_5_code (1 : Nat) (Option.some (Jvm.ClassFile.FieldType.object "java/lang/String")), Jvm.Cond.code ({ cls := "com/example/tributary/tributary/MediaTypesOfPinLaw", name := "lower", desc := "(C)C" } : Jvm.MethodName) method_5_code (1 : Nat) (Option.some Jvm.ClassFile.FieldType.char), Jvm.Cond.code ({ cls := "java/lang/StringLatin1", name := "equals", desc := "([B[B)Z" } : Jvm.MethodName) jdk_43_method_13_code (3 : Nat) (Option.some Jvm.ClassFile.FieldType.boolean)]
set_option maxRecDepth 65536 in
theorem codes_eq : words1.filter isCode = codes1 := rfl
theorem w_codes : ∀ c ∈ words1.filter isCode, c.before args0 about1 = true := by
  rw [codes_eq]
  intro c hc
  simp only [codes1, List.mem_cons, List.not_mem_nil, or_false] at hc
  rcases hc with rfl | rfl | rfl | rfl | rfl | rfl | rfl | rfl | rfl | rfl | rfl | rfl | rfl | rfl | rfl | rfl | rfl | rfl | rfl | rfl | rfl | rfl | rfl | rfl | rfl | rfl | rfl | rfl | rfl | rfl | rfl | rfl | rfl | rfl | rfl | rfl | rfl | rfl | rfl | rfl | rfl | rfl | rfl | rfl
  · exact w_c0
  · exact w_c1
  · exact w_c2
  · exact w_c3
  · exact w_c4
  · exact w_c5
  · exact w_c6
  · exact w_c7
  · exact w_c8
  · exact w_c9
  · exact w_c10
  · exact w_c11
  · exact w_c12
  · exact w_c13
  · exact w_c14
  · exact w_c15
  · exact w_c16
  · exact w_c17
  · exact w_c18
  · exact w_c19
  · exact w_c20
  · exact w_c21
  · exact w_c22
  · exact w_c23
  · exact w_c24
  · exact w_c25
  · exact w_c26
  · exact w_c27
  · exact w_c28
  · exact w_c29
  · exact w_c30
  · exact w_c31
  · exact w_c32
  · exact w_c33
  · exact w_c34
  · exact w_c35
  · exact w_c36
  · exact w_c37
  · exact w_c38
  · exact w_c39
  · exact w_c40
  · exact w_c41
  · exact w_c42
  · exact w_c43
set_option maxRecDepth 65536 in
theorem w_t1 : (words1.take 24).all (fun c => isCode c || c.before args0 about1) = true := by decide +kernel
set_option maxRecDepth 65536 in
theorem w_t2 : ((words1.drop 24).take 24).all (fun c => isCode c || c.before args0 about1) = true := by decide +kernel
set_option maxRecDepth 65536 in
theorem w_t3 : (((words1.drop 24).drop 24).take 24).all (fun c => isCode c || c.before args0 about1) = true := by decide +kernel
set_option maxRecDepth 65536 in
theorem w_t4 : ((((words1.drop 24).drop 24).drop 24).take 24).all (fun c => isCode c || c.before args0 about1) = true := by decide +kernel
set_option maxRecDepth 65536 in
theorem w_t5 : (((((words1.drop 24).drop 24).drop 24).drop 24).take 24).all (fun c => isCode c || c.before args0 about1) = true := by decide +kernel
set_option maxRecDepth 65536 in
theorem w_t6 : ((((((words1.drop 24).drop 24).drop 24).drop 24).drop 24).take 24).all (fun c => isCode c || c.before args0 about1) = true := by decide +kernel
set_option maxRecDepth 65536 in
theorem w_t7 : (((((((words1.drop 24).drop 24).drop 24).drop 24).drop 24).drop 24).take 24).all (fun c => isCode c || c.before args0 about1) = true := by decide +kernel
set_option maxRecDepth 65536 in
theorem w_t8 : ((((((((words1.drop 24).drop 24).drop 24).drop 24).drop 24).drop 24).drop 24).take 24).all (fun c => isCode c || c.before args0 about1) = true := by decide +kernel
set_option maxRecDepth 65536 in
theorem w_t9 : ((((((((words1.drop 24).drop 24).drop 24).drop 24).drop 24).drop 24).drop 24).drop 24).all (fun c => isCode c || c.before args0 about1) = true := by decide +kernel
theorem w_tables : (allAtoms (Jvm.Cond.code x code maxLocals ret :: tables_1)).before args0 about1 = true := by
  rw [allAtoms_all]
  show words1.all (fun c => c.before args0 about1) = true
  refine all_split ?_ w_codes
  rw [← List.take_append_drop 24 words1, List.all_append, w_t1, ← List.take_append_drop 24 (words1.drop 24), List.all_append, w_t2, ← List.take_append_drop 24 ((words1.drop 24).drop 24), List.all_append, w_t3, ← List.take_append_drop 24 (((words1.drop 24).drop 24).drop 24), List.all_append, w_t4, ← List.take_append_drop 24 ((((words1.drop 24).drop 24).drop 24).drop 24), List.all_append, w_t5, ← List.take_append_drop 24 (((((words1.drop 24).drop 24).drop 24).drop 24).drop 24), List.all_append, w_t6, ← List.take_append_drop 24 ((((((words1.drop 24).drop 24).drop 24).drop 24).drop 24).drop 24), List.all_append, w_t7, ← List.take_append_drop 24 (((((((words1.drop 24).drop 24).drop 24).drop 24).drop 24).drop 24).drop 24), List.all_append, w_t8, w_t9]
  rfl
set_option maxRecDepth 65536 in
theorem w_rest : rest_1_c.before args0 about1 = true := by decide +kernel
set_option maxRecDepth 65536 in
theorem w_case : (Jvm.Cond.and given_1 narrow_1).before args0 about1 = true := by decide +kernel
set_option maxRecDepth 65536 in
theorem w_consts : constsHeld consts_1 about1 := Jvm.Lit.constsHeldB_iff.mp (by decide +kernel)
theorem w_applies : (headSpec (Jvm.Cond.code x code maxLocals ret :: tables_1) room_1).applies x e0.platform about1 = true :=
  (Spec.applies_iff w_frames).mpr ⟨w_running, w_runnable, w_alone, w_named, w_hears, w_ripe, w_room, w_tables⟩
theorem atStart : AtStart classFile x code maxLocals ret World_1 tables_1 room_1 Calls_1 rest_1 Pre_1 launch0 p0 e0 about1 theMethod args0 below0 :=
  ⟨lists_1, trivial, launch0.admits_env _ _ _, launch0.least_env, fairChoices_fair.cas, fairChoices_fair.clock, w_frames, w_args, w_heap, w_applies, ⟨w_consts, trivial⟩, w_rest, w_case⟩
end start1
theorem witness_1 : WitnessClaimed_1 := ⟨start1.p0, start1.e0, start1.about1, start1.theMethod, start1.args0, start1.below0, start1.atStart⟩
end Jvm.Pilot.@@N@@
