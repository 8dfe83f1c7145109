import JvmDerived
import JvmDerived.Pilot.@@N@@Statement
import JvmDerived.Pilot.@@N@@Code
set_option linter.unusedVariables false
set_option linter.unusedSimpArgs false
namespace Jvm.OwK
open Jvm Sem ClassFile Op Lib Jvm.Free Jvm.Stand Jvm.LawKit Jvm.RoadKit Bundle
/-- one decoded row of a body, with the place of the next one -/
def Dec (c : ByteArray) (pc : Nat) (i : Instr) (len n : Nat) : Prop := decode c pc = .ok (i, len) ∧ pc + len = n
/-- the run from here ends as F says -/
def Go (p : Program) (e : Env) (below : List Frame) (F : State → Prop) (T : State) (g : JFrame) : Prop := ∃ t, Steps p.tables e below (T.setTop g) t ∧ F t
/-- where a plain step can be taken -/
def Cx (p : Program) (below : List Frame) (m : MethodId) (c : Code) (cd : ByteArray) (T : State) : Prop := At T m c below ∧ p.tables.exec = Jvm.exec ∧ c.code = cd
def ush (x y : Int32) : Int32 := (x.toUInt32 >>> (y &&& 31).toUInt32).toInt32
def ushL (x : Int64) (y : Int32) : Int64 := (x.toUInt64 >>> (y &&& 0x3f).toInt64.toUInt64).toInt64
def lcm (x y : Int64) : Int32 := if x > y then 1 else if x = y then 0 else -1
section Plain
variable {p : Program} {e : Env} {below : List Frame} {F : State → Prop} {T : State} {m : MethodId} {c : Code} {cd : ByteArray} {pc n : Nat} {L : Array Slot} {r : List Value}
theorem Go.st {T' : State} {g g' : JFrame} (h : ∀ t, Steps p.tables e below (T'.setTop g') t → Steps p.tables e below (T.setTop g) t) (k : Go p e below F T' g') : Go p e below F T g := by
  obtain ⟨t, st, f⟩ := k; exact ⟨t, h t st, f⟩
theorem Go.run {T' : State} {g g' : JFrame} (h : Steps p.tables e below (T.setTop g) (T'.setTop g')) (k : Go p e below F T' g') : Go p e below F T g := by
  obtain ⟨t, st, f⟩ := k; exact ⟨t, h.trans st, f⟩
theorem Go.top {x y : Int32} (h : x = y) (k : Go p e below F T (mkF m pc L (.int y :: r))) : Go p e below F T (mkF m pc L (.int x :: r)) := h ▸ k
theorem Go.topL {x y : Int64} (h : x = y) (k : Go p e below F T (mkF m pc L (.long y :: r))) : Go p e below F T (mkF m pc L (.long x :: r)) := h ▸ k
theorem Go.aload_n (C : Cx p below m c cd T) {k : Fin 4} {v : Value} (d : Dec cd pc (.aload_n k) 1 n) (hl : L[k.val]? = some (.val v)) (hv : v.isRef = true)
    (k : Go p e below F T (mkF m n L (v :: r))) : Go p e below F T (mkF m pc L r) := by
  obtain ⟨t, st, f⟩ := k; obtain ⟨d, rfl⟩ := d
  exact ⟨t, XS.aloadN C.1 C.2.1 rfl (hb C.2.2 d) hl hv st, f⟩
theorem Go.aload (C : Cx p below m c cd T) {k : Nat} {v : Value} (d : Dec cd pc (.aload k) 2 n) (hl : L[k]? = some (.val v)) (hv : v.isRef = true)
    (k : Go p e below F T (mkF m n L (v :: r))) : Go p e below F T (mkF m pc L r) := by
  obtain ⟨t, st, f⟩ := k; obtain ⟨d, rfl⟩ := d
  exact ⟨t, XS.aload C.1 C.2.1 rfl (hb C.2.2 d) hl hv st, f⟩
theorem Go.iload_n (C : Cx p below m c cd T) {k : Fin 4} {v : Int32} (d : Dec cd pc (.iload_n k) 1 n) (hl : L[k.val]? = some (.val (.int v)))
    (k : Go p e below F T (mkF m n L (.int v :: r))) : Go p e below F T (mkF m pc L r) := by
  obtain ⟨t, st, f⟩ := k; obtain ⟨d, rfl⟩ := d
  exact ⟨t, XS.iloadN C.1 C.2.1 rfl (hb C.2.2 d) hl st, f⟩
theorem Go.iload (C : Cx p below m c cd T) {k : Nat} {v : Int32} (d : Dec cd pc (.iload k) 2 n) (hl : L[k]? = some (.val (.int v)))
    (k : Go p e below F T (mkF m n L (.int v :: r))) : Go p e below F T (mkF m pc L r) := by
  obtain ⟨t, st, f⟩ := k; obtain ⟨d, rfl⟩ := d
  exact ⟨t, XS.iload C.1 C.2.1 rfl (hb C.2.2 d) hl st, f⟩
theorem Go.lload_n (C : Cx p below m c cd T) {k : Fin 4} {v : Int64} (d : Dec cd pc (.lload_n k) 1 n) (hl : L[k.val]? = some (.val (.long v)))
    (k : Go p e below F T (mkF m n L (.long v :: r))) : Go p e below F T (mkF m pc L r) := by
  obtain ⟨t, st, f⟩ := k; obtain ⟨d, rfl⟩ := d
  exact ⟨t, XS.lloadN C.1 C.2.1 rfl (hb C.2.2 d) hl st, f⟩
theorem Go.lload (C : Cx p below m c cd T) {k : Nat} {v : Int64} (d : Dec cd pc (.lload k) 2 n) (hl : L[k]? = some (.val (.long v)))
    (k : Go p e below F T (mkF m n L (.long v :: r))) : Go p e below F T (mkF m pc L r) := by
  obtain ⟨t, st, f⟩ := k; obtain ⟨d, rfl⟩ := d
  exact ⟨t, XS.lload C.1 C.2.1 rfl (hb C.2.2 d) hl st, f⟩
theorem Go.iconst (C : Cx p below m c cd T) {i : Int} {z : Int32} (d : Dec cd pc (.iconst i) 1 n) (hz : Int32.ofInt i = z)
    (k : Go p e below F T (mkF m n L (.int z :: r))) : Go p e below F T (mkF m pc L r) := by
  obtain ⟨t, st, f⟩ := k; obtain ⟨d, rfl⟩ := d
  subst hz; exact ⟨t, XS.iconst C.1 C.2.1 rfl (hb C.2.2 d)  st, f⟩
theorem Go.bipush (C : Cx p below m c cd T) {i : Int} {z : Int32} (d : Dec cd pc (.bipush i) 2 n) (hz : (Int8.ofInt i).toInt32 = z)
    (k : Go p e below F T (mkF m n L (.int z :: r))) : Go p e below F T (mkF m pc L r) := by
  obtain ⟨t, st, f⟩ := k; obtain ⟨d, rfl⟩ := d
  subst hz; exact ⟨t, XS.bipush C.1 C.2.1 rfl (hb C.2.2 d)  st, f⟩
theorem Go.sipush (C : Cx p below m c cd T) {i : Int} {z : Int32} (d : Dec cd pc (.sipush i) 3 n) (hz : (Int16.ofInt i).toInt32 = z)
    (k : Go p e below F T (mkF m n L (.int z :: r))) : Go p e below F T (mkF m pc L r) := by
  obtain ⟨t, st, f⟩ := k; obtain ⟨d, rfl⟩ := d
  subst hz; exact ⟨t, XS.sipush C.1 C.2.1 rfl (hb C.2.2 d)  st, f⟩
theorem Go.aconst_null (C : Cx p below m c cd T)  (d : Dec cd pc (.aconst_null) 1 n)
    (k : Go p e below F T (mkF m n L (.null :: r))) : Go p e below F T (mkF m pc L r) := by
  obtain ⟨t, st, f⟩ := k; obtain ⟨d, rfl⟩ := d
  exact ⟨t, XS.aconstNull C.1 C.2.1 rfl (hb C.2.2 d)  st, f⟩
theorem Go.iadd (C : Cx p below m c cd T) {x y : Int32} (d : Dec cd pc (.iadd) 1 n)
    (k : Go p e below F T (mkF m n L (.int (x + y) :: r))) : Go p e below F T (mkF m pc L (.int y :: .int x :: r)) := by
  obtain ⟨t, st, f⟩ := k; obtain ⟨d, rfl⟩ := d
  exact ⟨t, XS.iadd C.1 C.2.1 rfl (hb C.2.2 d) rfl st, f⟩
theorem Go.isub (C : Cx p below m c cd T) {x y : Int32} (d : Dec cd pc (.isub) 1 n)
    (k : Go p e below F T (mkF m n L (.int (x - y) :: r))) : Go p e below F T (mkF m pc L (.int y :: .int x :: r)) := by
  obtain ⟨t, st, f⟩ := k; obtain ⟨d, rfl⟩ := d
  exact ⟨t, XS.isub C.1 C.2.1 rfl (hb C.2.2 d) rfl st, f⟩
theorem Go.iand (C : Cx p below m c cd T) {x y : Int32} (d : Dec cd pc (.iand) 1 n)
    (k : Go p e below F T (mkF m n L (.int (x &&& y) :: r))) : Go p e below F T (mkF m pc L (.int y :: .int x :: r)) := by
  obtain ⟨t, st, f⟩ := k; obtain ⟨d, rfl⟩ := d
  exact ⟨t, XS.iand C.1 C.2.1 rfl (hb C.2.2 d) rfl st, f⟩
theorem Go.imul (C : Cx p below m c cd T) {x y : Int32} (d : Dec cd pc (.imul) 1 n)
    (k : Go p e below F T (mkF m n L (.int (x * y) :: r))) : Go p e below F T (mkF m pc L (.int y :: .int x :: r)) := by
  obtain ⟨t, st, f⟩ := k; obtain ⟨d, rfl⟩ := d
  exact ⟨t, XS.imul C.1 C.2.1 rfl (hb C.2.2 d) rfl st, f⟩
theorem Go.ior (C : Cx p below m c cd T) {x y : Int32} (d : Dec cd pc (.ior) 1 n)
    (k : Go p e below F T (mkF m n L (.int (x ||| y) :: r))) : Go p e below F T (mkF m pc L (.int y :: .int x :: r)) := by
  obtain ⟨t, st, f⟩ := k; obtain ⟨d, rfl⟩ := d
  exact ⟨t, XS.ior C.1 C.2.1 rfl (hb C.2.2 d) rfl st, f⟩
theorem Go.ixor (C : Cx p below m c cd T) {x y : Int32} (d : Dec cd pc (.ixor) 1 n)
    (k : Go p e below F T (mkF m n L (.int (x ^^^ y) :: r))) : Go p e below F T (mkF m pc L (.int y :: .int x :: r)) := by
  obtain ⟨t, st, f⟩ := k; obtain ⟨d, rfl⟩ := d
  exact ⟨t, XS.ixor C.1 C.2.1 rfl (hb C.2.2 d) rfl st, f⟩
theorem Go.iushr (C : Cx p below m c cd T) {x y : Int32} (d : Dec cd pc (.iushr) 1 n)
    (k : Go p e below F T (mkF m n L (.int (ush x y) :: r))) : Go p e below F T (mkF m pc L (.int y :: .int x :: r)) := by
  obtain ⟨t, st, f⟩ := k; obtain ⟨d, rfl⟩ := d
  exact ⟨t, XS.iushr C.1 C.2.1 rfl (hb C.2.2 d) rfl st, f⟩
theorem Go.idiv (C : Cx p below m c cd T) {x y : Int32} (d : Dec cd pc (.idiv) 1 n) (hy : y ≠ 0)
    (k : Go p e below F T (mkF m n L (.int (x / y) :: r))) : Go p e below F T (mkF m pc L (.int y :: .int x :: r)) := by
  obtain ⟨t, st, f⟩ := k; obtain ⟨d, rfl⟩ := d
  exact ⟨t, XS.idiv C.1 C.2.1 rfl (hb C.2.2 d) rfl hy st, f⟩
theorem Go.ineg (C : Cx p below m c cd T) {x : Int32} (d : Dec cd pc (.ineg) 1 n)
    (k : Go p e below F T (mkF m n L (.int (-x) :: r))) : Go p e below F T (mkF m pc L (.int x :: r)) := by
  obtain ⟨t, st, f⟩ := k; obtain ⟨d, rfl⟩ := d
  exact ⟨t, XS.ineg C.1 C.2.1 rfl (hb C.2.2 d) rfl st, f⟩
theorem Go.ladd (C : Cx p below m c cd T) {x y : Int64} (d : Dec cd pc (.ladd) 1 n)
    (k : Go p e below F T (mkF m n L (.long (x + y) :: r))) : Go p e below F T (mkF m pc L (.long y :: .long x :: r)) := by
  obtain ⟨t, st, f⟩ := k; obtain ⟨d, rfl⟩ := d
  exact ⟨t, XS.ladd C.1 C.2.1 rfl (hb C.2.2 d) rfl st, f⟩
theorem Go.lsub (C : Cx p below m c cd T) {x y : Int64} (d : Dec cd pc (.lsub) 1 n)
    (k : Go p e below F T (mkF m n L (.long (x - y) :: r))) : Go p e below F T (mkF m pc L (.long y :: .long x :: r)) := by
  obtain ⟨t, st, f⟩ := k; obtain ⟨d, rfl⟩ := d
  exact ⟨t, XS.lsub C.1 C.2.1 rfl (hb C.2.2 d) rfl st, f⟩
theorem Go.lmul (C : Cx p below m c cd T) {x y : Int64} (d : Dec cd pc (.lmul) 1 n)
    (k : Go p e below F T (mkF m n L (.long (x * y) :: r))) : Go p e below F T (mkF m pc L (.long y :: .long x :: r)) := by
  obtain ⟨t, st, f⟩ := k; obtain ⟨d, rfl⟩ := d
  exact ⟨t, XS.lmul C.1 C.2.1 rfl (hb C.2.2 d) rfl st, f⟩
theorem Go.land (C : Cx p below m c cd T) {x y : Int64} (d : Dec cd pc (.land) 1 n)
    (k : Go p e below F T (mkF m n L (.long (x &&& y) :: r))) : Go p e below F T (mkF m pc L (.long y :: .long x :: r)) := by
  obtain ⟨t, st, f⟩ := k; obtain ⟨d, rfl⟩ := d
  exact ⟨t, XS.land C.1 C.2.1 rfl (hb C.2.2 d) rfl st, f⟩
theorem Go.lor (C : Cx p below m c cd T) {x y : Int64} (d : Dec cd pc (.lor) 1 n)
    (k : Go p e below F T (mkF m n L (.long (x ||| y) :: r))) : Go p e below F T (mkF m pc L (.long y :: .long x :: r)) := by
  obtain ⟨t, st, f⟩ := k; obtain ⟨d, rfl⟩ := d
  exact ⟨t, XS.lor C.1 C.2.1 rfl (hb C.2.2 d) rfl st, f⟩
theorem Go.lushr (C : Cx p below m c cd T) {x : Int64} {y : Int32} (d : Dec cd pc (.lushr) 1 n)
    (k : Go p e below F T (mkF m n L (.long (ushL x y) :: r))) : Go p e below F T (mkF m pc L (.int y :: .long x :: r)) := by
  obtain ⟨t, st, f⟩ := k; obtain ⟨d, rfl⟩ := d
  exact ⟨t, XS.lushr C.1 C.2.1 rfl (hb C.2.2 d) rfl st, f⟩
theorem Go.i2l (C : Cx p below m c cd T) {x : Int32} (d : Dec cd pc (.i2l) 1 n)
    (k : Go p e below F T (mkF m n L (.long x.toInt64 :: r))) : Go p e below F T (mkF m pc L (.int x :: r)) := by
  obtain ⟨t, st, f⟩ := k; obtain ⟨d, rfl⟩ := d
  exact ⟨t, XS.i2l C.1 C.2.1 rfl (hb C.2.2 d) rfl st, f⟩
theorem Go.l2i (C : Cx p below m c cd T) {x : Int64} (d : Dec cd pc (.l2i) 1 n)
    (k : Go p e below F T (mkF m n L (.int x.toInt32 :: r))) : Go p e below F T (mkF m pc L (.long x :: r)) := by
  obtain ⟨t, st, f⟩ := k; obtain ⟨d, rfl⟩ := d
  exact ⟨t, XS.l2i C.1 C.2.1 rfl (hb C.2.2 d) rfl st, f⟩
theorem Go.i2b (C : Cx p below m c cd T) {x : Int32} (d : Dec cd pc (.i2b) 1 n)
    (k : Go p e below F T (mkF m n L (.int x.toInt8.toInt32 :: r))) : Go p e below F T (mkF m pc L (.int x :: r)) := by
  obtain ⟨t, st, f⟩ := k; obtain ⟨d, rfl⟩ := d
  exact ⟨t, XS.i2b C.1 C.2.1 rfl (hb C.2.2 d) rfl st, f⟩
theorem Go.i2c (C : Cx p below m c cd T) {x : Int32} (d : Dec cd pc (.i2c) 1 n)
    (k : Go p e below F T (mkF m n L (.int x.toUInt32.toUInt16.toUInt32.toInt32 :: r))) : Go p e below F T (mkF m pc L (.int x :: r)) := by
  obtain ⟨t, st, f⟩ := k; obtain ⟨d, rfl⟩ := d
  exact ⟨t, XS.i2c C.1 C.2.1 rfl (hb C.2.2 d) rfl st, f⟩
theorem Go.lcmp (C : Cx p below m c cd T) {x y : Int64} (d : Dec cd pc (.lcmp) 1 n)
    (k : Go p e below F T (mkF m n L (.int (lcm x y) :: r))) : Go p e below F T (mkF m pc L (.long y :: .long x :: r)) := by
  obtain ⟨t, st, f⟩ := k; obtain ⟨d, rfl⟩ := d
  exact ⟨t, XS.lcmp C.1 C.2.1 rfl (hb C.2.2 d) rfl st, f⟩
theorem Go.dup (C : Cx p below m c cd T) {x : Value} (d : Dec cd pc (.dup) 1 n) (hc : x.category = 1)
    (k : Go p e below F T (mkF m n L (x :: x :: r))) : Go p e below F T (mkF m pc L (x :: r)) := by
  obtain ⟨t, st, f⟩ := k; obtain ⟨d, rfl⟩ := d
  exact ⟨t, XS.dup C.1 C.2.1 rfl (hb C.2.2 d) rfl hc st, f⟩
theorem Go.pop (C : Cx p below m c cd T) {x : Value} (d : Dec cd pc (.pop) 1 n) (hc : x.category = 1)
    (k : Go p e below F T (mkF m n L r)) : Go p e below F T (mkF m pc L (x :: r)) := by
  obtain ⟨t, st, f⟩ := k; obtain ⟨d, rfl⟩ := d
  exact ⟨t, XS.pop C.1 C.2.1 rfl (hb C.2.2 d) rfl hc st, f⟩
theorem Go.istore_n (C : Cx p below m c cd T) {k : Fin 4} {x : Int32} {L' : Array Slot} (d : Dec cd pc (.istore_n k) 1 n) (hl : storeLocals L k.val (.int x) = some L')
    (k : Go p e below F T (mkF m n L' r)) : Go p e below F T (mkF m pc L (.int x :: r)) := by
  obtain ⟨t, st, f⟩ := k; obtain ⟨d, rfl⟩ := d
  exact ⟨t, XS.istoreN C.1 C.2.1 rfl (hb C.2.2 d) rfl hl st, f⟩
theorem Go.istore (C : Cx p below m c cd T) {k : Nat} {x : Int32} {L' : Array Slot} (d : Dec cd pc (.istore k) 2 n) (hl : storeLocals L k (.int x) = some L')
    (k : Go p e below F T (mkF m n L' r)) : Go p e below F T (mkF m pc L (.int x :: r)) := by
  obtain ⟨t, st, f⟩ := k; obtain ⟨d, rfl⟩ := d
  exact ⟨t, XS.istore C.1 C.2.1 rfl (hb C.2.2 d) rfl hl st, f⟩
theorem Go.lstore_n (C : Cx p below m c cd T) {k : Fin 4} {x : Int64} {L' : Array Slot} (d : Dec cd pc (.lstore_n k) 1 n) (hl : storeLocals L k.val (.long x) = some L')
    (k : Go p e below F T (mkF m n L' r)) : Go p e below F T (mkF m pc L (.long x :: r)) := by
  obtain ⟨t, st, f⟩ := k; obtain ⟨d, rfl⟩ := d
  exact ⟨t, XS.lstoreN C.1 C.2.1 rfl (hb C.2.2 d) rfl hl st, f⟩
theorem Go.lstore (C : Cx p below m c cd T) {k : Nat} {x : Int64} {L' : Array Slot} (d : Dec cd pc (.lstore k) 2 n) (hl : storeLocals L k (.long x) = some L')
    (k : Go p e below F T (mkF m n L' r)) : Go p e below F T (mkF m pc L (.long x :: r)) := by
  obtain ⟨t, st, f⟩ := k; obtain ⟨d, rfl⟩ := d
  exact ⟨t, XS.lstore C.1 C.2.1 rfl (hb C.2.2 d) rfl hl st, f⟩
theorem Go.astore_n (C : Cx p below m c cd T) {k : Fin 4} {x : Value} {L' : Array Slot} (d : Dec cd pc (.astore_n k) 1 n) (hv : x.isRef = true) (hl : storeLocals L k.val x = some L')
    (k : Go p e below F T (mkF m n L' r)) : Go p e below F T (mkF m pc L (x :: r)) := by
  obtain ⟨t, st, f⟩ := k; obtain ⟨d, rfl⟩ := d
  exact ⟨t, XS.astoreN C.1 C.2.1 rfl (hb C.2.2 d) rfl hv hl st, f⟩
theorem Go.astore (C : Cx p below m c cd T) {k : Nat} {x : Value} {L' : Array Slot} (d : Dec cd pc (.astore k) 2 n) (hv : x.isRef = true) (hl : storeLocals L k x = some L')
    (k : Go p e below F T (mkF m n L' r)) : Go p e below F T (mkF m pc L (x :: r)) := by
  obtain ⟨t, st, f⟩ := k; obtain ⟨d, rfl⟩ := d
  exact ⟨t, XS.astore C.1 C.2.1 rfl (hb C.2.2 d) rfl hv hl st, f⟩
theorem Go.iinc (C : Cx p below m c cd T) {k : Nat} {i : Int} {x z : Int32} {L' : Array Slot} (d : Dec cd pc (.iinc k i) 3 n) (hl : L[k]? = some (.val (.int x))) (hz : x + Int32.ofInt i = z) (hl' : storeLocals L k (.int z) = some L')
    (k : Go p e below F T (mkF m n L' r)) : Go p e below F T (mkF m pc L r) := by
  obtain ⟨t, st, f⟩ := k; obtain ⟨d, rfl⟩ := d
  exact ⟨t, XS.iinc C.1 C.2.1 rfl (hb C.2.2 d) hl (hz ▸ hl') st, f⟩
theorem Go.irem (C : Cx p below m c cd T) {x y : Int32} (d : Dec cd pc (.irem) 1 n) (hy : y ≠ 0)
    (k : Go p e below F T (mkF m n L (.int (x % y) :: r))) : Go p e below F T (mkF m pc L (.int y :: .int x :: r)) := by
  obtain ⟨t, st, f⟩ := k; obtain ⟨d, rfl⟩ := d
  exact ⟨t, XS.irem C.1 C.2.1 rfl (hb C.2.2 d) rfl hy (by rw [irem_eq_mod]; exact st), f⟩
theorem Go.lconst (C : Cx p below m c cd T) {k0 : Fin 2} {z : Int64} (d : Dec cd pc (.lconst k0) 1 n) (hz : Int64.ofNat k0 = z)
    (k : Go p e below F T (mkF m n L (.long z :: r))) : Go p e below F T (mkF m pc L r) := by
  obtain ⟨t, st, f⟩ := k; obtain ⟨d, rfl⟩ := d
  subst hz; exact ⟨t, XS.lconst C.1 C.2.1 rfl (hb C.2.2 d) st, f⟩
theorem Go.goto (C : Cx p below m c cd T) {o : Int} {q : Nat} (d : Dec cd pc (.goto o) 3 n) (ho : 0 ≤ (pc : Int) + o) (hp : ((pc : Int) + o).toNat = q)
    (k : Go p e below F T (mkF m q L r)) : Go p e below F T (mkF m pc L r) := by
  obtain ⟨t, st, f⟩ := k; obtain ⟨d, rfl⟩ := d
  exact ⟨t, XS.goto C.1 C.2.1 rfl (pc0 := pc) rfl (hb C.2.2 d) ho hp st, f⟩
theorem Go.ifb (C : Cx p below m c cd T) {cc : ClassFile.Cond} {x : Int32} {o : Int} {q : Nat} (d : Dec cd pc (.ifCond cc o) 3 n) (ho : 0 ≤ (pc : Int) + o) (hp : ((pc : Int) + o).toNat = q)
    (k1 : ifCond.holds cc x = true → Go p e below F T (mkF m q L r)) (k2 : ifCond.holds cc x = false → Go p e below F T (mkF m n L r)) : Go p e below F T (mkF m pc L (.int x :: r)) := by
  obtain ⟨d, rfl⟩ := d
  cases hc : ifCond.holds cc x
  · obtain ⟨t, st, f⟩ := k2 hc; exact ⟨t, XS.ifNo C.1 C.2.1 rfl (hb C.2.2 d) rfl hc st, f⟩
  · obtain ⟨t, st, f⟩ := k1 hc; exact ⟨t, XS.ifYes C.1 C.2.1 rfl (pc0 := pc) rfl (hb C.2.2 d) rfl hc ho hp st, f⟩
theorem Go.icb (C : Cx p below m c cd T) {cc : ClassFile.Cond} {x y : Int32} {o : Int} {q : Nat} (d : Dec cd pc (.if_icmp cc o) 3 n) (ho : 0 ≤ (pc : Int) + o) (hp : ((pc : Int) + o).toNat = q)
    (k1 : if_icmp.holds cc x y = true → Go p e below F T (mkF m q L r)) (k2 : if_icmp.holds cc x y = false → Go p e below F T (mkF m n L r)) : Go p e below F T (mkF m pc L (.int y :: .int x :: r)) := by
  obtain ⟨d, rfl⟩ := d
  cases hc : if_icmp.holds cc x y
  · obtain ⟨t, st, f⟩ := k2 hc; exact ⟨t, XS.icmpNo C.1 C.2.1 rfl (hb C.2.2 d) rfl hc st, f⟩
  · obtain ⟨t, st, f⟩ := k1 hc; exact ⟨t, XS.icmpYes C.1 C.2.1 rfl (pc0 := pc) rfl (hb C.2.2 d) rfl hc ho hp st, f⟩
theorem Go.ifeq (C : Cx p below m c cd T) {x : Int32} {o : Int} {q : Nat} (d : Dec cd pc (.ifCond .eq o) 3 n) (ho : 0 ≤ (pc : Int) + o) (hp : ((pc : Int) + o).toNat = q)
    (k1 : x = 0 → Go p e below F T (mkF m q L r)) (k2 : ¬ x = 0 → Go p e below F T (mkF m n L r)) : Go p e below F T (mkF m pc L (.int x :: r)) :=
  Go.ifb C d ho hp (fun h => k1 (by simpa [ifCond.holds] using h)) (fun h => k2 (by simpa [ifCond.holds] using h))
theorem Go.ifne (C : Cx p below m c cd T) {x : Int32} {o : Int} {q : Nat} (d : Dec cd pc (.ifCond .ne o) 3 n) (ho : 0 ≤ (pc : Int) + o) (hp : ((pc : Int) + o).toNat = q)
    (k1 : ¬ x = 0 → Go p e below F T (mkF m q L r)) (k2 : x = 0 → Go p e below F T (mkF m n L r)) : Go p e below F T (mkF m pc L (.int x :: r)) :=
  Go.ifb C d ho hp (fun h => k1 (by simpa [ifCond.holds] using h)) (fun h => k2 (by simpa [ifCond.holds] using h))
theorem Go.iflt (C : Cx p below m c cd T) {x : Int32} {o : Int} {q : Nat} (d : Dec cd pc (.ifCond .lt o) 3 n) (ho : 0 ≤ (pc : Int) + o) (hp : ((pc : Int) + o).toNat = q)
    (k1 : x < 0 → Go p e below F T (mkF m q L r)) (k2 : ¬ x < 0 → Go p e below F T (mkF m n L r)) : Go p e below F T (mkF m pc L (.int x :: r)) :=
  Go.ifb C d ho hp (fun h => k1 (by simpa [ifCond.holds] using h)) (fun h => k2 (by simpa [ifCond.holds] using h))
theorem Go.ifge (C : Cx p below m c cd T) {x : Int32} {o : Int} {q : Nat} (d : Dec cd pc (.ifCond .ge o) 3 n) (ho : 0 ≤ (pc : Int) + o) (hp : ((pc : Int) + o).toNat = q)
    (k1 : ¬ x < 0 → Go p e below F T (mkF m q L r)) (k2 : x < 0 → Go p e below F T (mkF m n L r)) : Go p e below F T (mkF m pc L (.int x :: r)) :=
  Go.ifb C d ho hp (fun h => k1 (by simpa [ifCond.holds] using h)) (fun h => k2 (by simpa [ifCond.holds] using h))
theorem Go.ifgt (C : Cx p below m c cd T) {x : Int32} {o : Int} {q : Nat} (d : Dec cd pc (.ifCond .gt o) 3 n) (ho : 0 ≤ (pc : Int) + o) (hp : ((pc : Int) + o).toNat = q)
    (k1 : 0 < x → Go p e below F T (mkF m q L r)) (k2 : ¬ 0 < x → Go p e below F T (mkF m n L r)) : Go p e below F T (mkF m pc L (.int x :: r)) :=
  Go.ifb C d ho hp (fun h => k1 (by simpa [ifCond.holds] using h)) (fun h => k2 (by simpa [ifCond.holds] using h))
theorem Go.ifle (C : Cx p below m c cd T) {x : Int32} {o : Int} {q : Nat} (d : Dec cd pc (.ifCond .le o) 3 n) (ho : 0 ≤ (pc : Int) + o) (hp : ((pc : Int) + o).toNat = q)
    (k1 : ¬ 0 < x → Go p e below F T (mkF m q L r)) (k2 : 0 < x → Go p e below F T (mkF m n L r)) : Go p e below F T (mkF m pc L (.int x :: r)) :=
  Go.ifb C d ho hp (fun h => k1 (by simpa [ifCond.holds] using h)) (fun h => k2 (by simpa [ifCond.holds] using h))
theorem Go.iceq (C : Cx p below m c cd T) {x y : Int32} {o : Int} {q : Nat} (d : Dec cd pc (.if_icmp .eq o) 3 n) (ho : 0 ≤ (pc : Int) + o) (hp : ((pc : Int) + o).toNat = q)
    (k1 : x = y → Go p e below F T (mkF m q L r)) (k2 : ¬ x = y → Go p e below F T (mkF m n L r)) : Go p e below F T (mkF m pc L (.int y :: .int x :: r)) :=
  Go.icb C d ho hp (fun h => k1 (by simpa [if_icmp.holds] using h)) (fun h => k2 (by simpa [if_icmp.holds] using h))
theorem Go.icne (C : Cx p below m c cd T) {x y : Int32} {o : Int} {q : Nat} (d : Dec cd pc (.if_icmp .ne o) 3 n) (ho : 0 ≤ (pc : Int) + o) (hp : ((pc : Int) + o).toNat = q)
    (k1 : ¬ x = y → Go p e below F T (mkF m q L r)) (k2 : x = y → Go p e below F T (mkF m n L r)) : Go p e below F T (mkF m pc L (.int y :: .int x :: r)) :=
  Go.icb C d ho hp (fun h => k1 (by simpa [if_icmp.holds] using h)) (fun h => k2 (by simpa [if_icmp.holds] using h))
theorem Go.iclt (C : Cx p below m c cd T) {x y : Int32} {o : Int} {q : Nat} (d : Dec cd pc (.if_icmp .lt o) 3 n) (ho : 0 ≤ (pc : Int) + o) (hp : ((pc : Int) + o).toNat = q)
    (k1 : x < y → Go p e below F T (mkF m q L r)) (k2 : ¬ x < y → Go p e below F T (mkF m n L r)) : Go p e below F T (mkF m pc L (.int y :: .int x :: r)) :=
  Go.icb C d ho hp (fun h => k1 (by simpa [if_icmp.holds] using h)) (fun h => k2 (by simpa [if_icmp.holds] using h))
theorem Go.icge (C : Cx p below m c cd T) {x y : Int32} {o : Int} {q : Nat} (d : Dec cd pc (.if_icmp .ge o) 3 n) (ho : 0 ≤ (pc : Int) + o) (hp : ((pc : Int) + o).toNat = q)
    (k1 : ¬ x < y → Go p e below F T (mkF m q L r)) (k2 : x < y → Go p e below F T (mkF m n L r)) : Go p e below F T (mkF m pc L (.int y :: .int x :: r)) :=
  Go.icb C d ho hp (fun h => k1 (by simpa [if_icmp.holds] using h)) (fun h => k2 (by simpa [if_icmp.holds] using h))
theorem Go.icgt (C : Cx p below m c cd T) {x y : Int32} {o : Int} {q : Nat} (d : Dec cd pc (.if_icmp .gt o) 3 n) (ho : 0 ≤ (pc : Int) + o) (hp : ((pc : Int) + o).toNat = q)
    (k1 : y < x → Go p e below F T (mkF m q L r)) (k2 : ¬ y < x → Go p e below F T (mkF m n L r)) : Go p e below F T (mkF m pc L (.int y :: .int x :: r)) :=
  Go.icb C d ho hp (fun h => k1 (by simpa [if_icmp.holds] using h)) (fun h => k2 (by simpa [if_icmp.holds] using h))
theorem Go.icle (C : Cx p below m c cd T) {x y : Int32} {o : Int} {q : Nat} (d : Dec cd pc (.if_icmp .le o) 3 n) (ho : 0 ≤ (pc : Int) + o) (hp : ((pc : Int) + o).toNat = q)
    (k1 : ¬ y < x → Go p e below F T (mkF m q L r)) (k2 : y < x → Go p e below F T (mkF m n L r)) : Go p e below F T (mkF m pc L (.int y :: .int x :: r)) :=
  Go.icb C d ho hp (fun h => k1 (by simpa [if_icmp.holds] using h)) (fun h => k2 (by simpa [if_icmp.holds] using h))
theorem Go.ifnull_y (C : Cx p below m c cd T) {o : Int} {q : Nat} (d : Dec cd pc (.ifnull o) 3 n) (ho : 0 ≤ (pc : Int) + o) (hp : ((pc : Int) + o).toNat = q)
    (k : Go p e below F T (mkF m q L r)) : Go p e below F T (mkF m pc L (.null :: r)) := by
  obtain ⟨t, st, f⟩ := k; obtain ⟨d, rfl⟩ := d
  exact ⟨t, XS.ifnullYes C.1 C.2.1 rfl (pc0 := pc) rfl (hb C.2.2 d) rfl ho hp st, f⟩
theorem Go.ifnull_n (C : Cx p below m c cd T) {o : Int} {a : Addr} (d : Dec cd pc (.ifnull o) 3 n)
    (k : Go p e below F T (mkF m n L r)) : Go p e below F T (mkF m pc L (.ref a :: r)) := by
  obtain ⟨t, st, f⟩ := k; obtain ⟨d, rfl⟩ := d
  exact ⟨t, XS.ifnullNo C.1 C.2.1 rfl (hb C.2.2 d) rfl st, f⟩
theorem Go.ifnonnull_y (C : Cx p below m c cd T) {o : Int} {q : Nat} {a : Addr} (d : Dec cd pc (.ifnonnull o) 3 n) (ho : 0 ≤ (pc : Int) + o) (hp : ((pc : Int) + o).toNat = q)
    (k : Go p e below F T (mkF m q L r)) : Go p e below F T (mkF m pc L (.ref a :: r)) := by
  obtain ⟨t, st, f⟩ := k; obtain ⟨d, rfl⟩ := d
  exact ⟨t, XS.ifnonnullYes C.1 C.2.1 rfl (pc0 := pc) rfl (hb C.2.2 d) rfl ho hp st, f⟩
theorem Go.ifnonnull_n (C : Cx p below m c cd T) {o : Int} (d : Dec cd pc (.ifnonnull o) 3 n)
    (k : Go p e below F T (mkF m n L r)) : Go p e below F T (mkF m pc L (.null :: r)) := by
  obtain ⟨t, st, f⟩ := k; obtain ⟨d, rfl⟩ := d
  exact ⟨t, XS.ifnonnullNo C.1 C.2.1 rfl (hb C.2.2 d) rfl st, f⟩
end Plain
section Walk
/-- a walk stands at T, the heap h: over its own start s whose tables may have come to vm0; what xs names is the walk's own to write -/
def Wk (nw : Prop) (EL : List (String × Nat)) (n0 : Nat) (Z : State) (a0 : Array Value) (own nm : String) (cd : ByteArray) (ml : Nat) (ret : Option FieldType) (p : Program) (l : Launch) (e : Env) (R : Room) (s : State) (m : MethodId) (args : Array Value) (below : List Frame) (meth : Method) (c : Code) (T : State) (h : Heap) (xs : List Addr) (cells slots : Nat) : Prop :=
  ∃ (vm0 : Vm) (k0 : Nat) (locs : List Loc), Stand p l e R (s.setVm vm0) m args below meth c T locs cells slots ∧ T.heap = h ∧ s.Since vm0 k0 ∧ k0 ≤ h.size ∧ (nw → s.WarmedH vm0) ∧ Z.Warmed39 vm0 ∧ vm0.findClass own = some m.cls ∧ EW Z a0 EL ∧ CHr Z EL s.vm s.heap vm0 h ∧ Fr n0 locs ∧ Old Z n0 h ∧
    (∀ x ∈ xs, n0 ≤ x ∧ x < h.size ∧ Safe Z EL vm0 h x) ∧ p.tables.exec = Jvm.exec ∧ c.code = cd ∧ c.maxLocals = ml ∧ meth.sig.returnType = ret ∧ meth.locks = false ∧ meth.name = nm
/-- how a body's walk ends -/
def Endp (nw : Prop) (EL : List (String × Nat)) (n0 : Nat) (Z : State) (below : List Frame) (s : State) (kc ks : Nat) (Q : Option Value → Heap → Prop) (t : State) : Prop :=
  t.status = .running ∧ ∃ v Lc, Ended t below (.returned v) ∧ Q v t.heap ∧ Fr n0 Lc ∧ Old Z n0 t.heap ∧ CHr Z EL s.vm s.heap t.vm t.heap ∧ ReturnedEndW s (.returned v) t Lc kc ks ∧ (nw → s.WarmedH t.vm)
/-- a body's contract -/
def Ctr (nw : Prop) (EL : List (String × Nat)) (n0 : Nat) (Z : State) (xs : List Addr) (l : Launch) (y : MethodName) (bytes : ByteArray) (maxL : Nat) (ret : Option FieldType) (rm : Room) (as' : Array Value) (h : Heap) (Q : Option Value → Heap → Prop) : Prop :=
  ∀ ws, MetFree l y (head1 (Cond.code y bytes maxL ret :: ws) rm) (fun a U => a = as' ∧ U.heap = h ∧ Z.Warmed39 U.vm ∧ CHv Z EL U.vm h ∧ ∀ x ∈ xs, Safe Z EL U.vm h x) (fun _ _ _ _ _ => True)
    (fun _ U o U' => ∃ v Lc, o = .returned v ∧ Q v U'.heap ∧ Fr n0 Lc ∧ Old Z n0 U'.heap ∧ CHr Z EL U.vm U.heap U'.vm U'.heap ∧ ReturnedEndW U o U' Lc rm.cells rm.slots ∧ (nw → U.WarmedH U'.vm))
/-- a call that comes back -/
def Call (nw : Prop) (EL : List (String × Nat)) (n0 : Nat) (Z : State) (xs : List Addr) (l : Launch) (R : Room) (p : Program) (e : Env) (below : List Frame) (s : State) (args : Array Value) (y : MethodName) (len W : Nat) (as' : Array Value) (h : Heap) (kc ks : Nat) (Q : Option Value → Heap → Prop) : Prop :=
  ∀ vm0, Z.Warmed39 vm0 → CHv Z EL vm0 h → Old Z n0 h → (∀ x ∈ xs, n0 ≤ x ∧ x < h.size ∧ Safe Z EL vm0 h x) →
    BackS l R p e below (s.setVm vm0) args y len W (fun A a => a = as' ∧ A.U.heap = h ∧ A.cells + kc ≤ R.cells ∧ A.slots + ks ≤ R.slots)
      (fun A _ v B => ∃ Lc, Q v B.U.heap ∧ B.locs = A.locs ++ Lc ∧ B.cells = A.cells + kc ∧ B.slots = A.slots + ks ∧ Fr n0 Lc ∧ Old Z n0 B.U.heap ∧ CHr Z EL vm0 h B.U.vm B.U.heap ∧ (nw → (s.setVm vm0).WarmedH B.U.vm))
/-- what a body hands back: a value, or nothing -/
def RV (Q : Value → Heap → Prop) (v : Option Value) (h : Heap) : Prop := ∃ w, v = some w ∧ Q w h
def RN (Q : Heap → Prop) (v : Option Value) (h : Heap) : Prop := v = none ∧ Q h
variable {nw : Prop} {EL : List (String × Nat)} {n0 : Nat} {Z : State} {a0 : Array Value} {own nm : String} {cd : ByteArray} {ml : Nat} {ret : Option FieldType} {p : Program} {l : Launch} {e : Env} {R : Room} {s : State} {m : MethodId} {args : Array Value} {below : List Frame} {meth : Method} {c : Code} {T : State} {h : Heap} {xs : List Addr} {cells slots : Nat}
variable {F : State → Prop} {pc n : Nat} {L : Array Slot} {r : List Value}
theorem Wk.cx (W : Wk nw EL n0 Z a0 own nm cd ml ret p l e R s m args below meth c T h xs cells slots) : Cx p below m c cd T := by
  obtain ⟨vm0, k0, locs, X, eT, hS, hk, hn, hZ, ho, hE, hC, hF, hO, hxs, hx, hby, rest⟩ := W
  exact ⟨X.here, hx, hby⟩
theorem Wk.old (W : Wk nw EL n0 Z a0 own nm cd ml ret p l e R s m args below meth c T h xs cells slots) : Old Z n0 h := by
  obtain ⟨vm0, k0, locs, X, eT, hS, hk, hn, hZ, ho, hE, hC, hF, hO, hxs, rest⟩ := W
  exact hO
theorem Wk.ew (W : Wk nw EL n0 Z a0 own nm cd ml ret p l e R s m args below meth c T h xs cells slots) : EW Z a0 EL := by
  obtain ⟨vm0, k0, locs, X, eT, hS, hk, hn, hZ, ho, hE, rest⟩ := W
  exact hE
theorem old_le (hO : Old Z n0 h) : n0 ≤ h.size := hO.1 ▸ hO.2.1
theorem Wk.mine (W : Wk nw EL n0 Z a0 own nm cd ml ret p l e R s m args below meth c T h xs cells slots) {x : Addr} (hm : x ∈ xs) : n0 ≤ x ∧ x < h.size := by
  obtain ⟨vm0, k0, locs, X, eT, hS, hk, hn, hZ, ho, hE, hC, hF, hO, hxs, rest⟩ := W
  exact ⟨(hxs x hm).1, (hxs x hm).2.1⟩
theorem Wk.mono (W : Wk nw EL n0 Z a0 own nm cd ml ret p l e R s m args below meth c T h xs cells slots) {cells' slots' : Nat} (h1 : cells ≤ cells') (h2 : slots ≤ slots') : Wk nw EL n0 Z a0 own nm cd ml ret p l e R s m args below meth c T h xs cells' slots' := by
  obtain ⟨vm0, k0, locs, X, rest⟩ := W
  exact ⟨vm0, k0, locs, ⟨X.admits, X.cas, X.clock, X.frames, X.room, X.hears, X.method, X.code, X.here, X.tail, X.warmed, X.limits, X.bytes, X.same.mono h1 h2⟩, rest⟩
theorem Wk.less (W : Wk nw EL n0 Z a0 own nm cd ml ret p l e R s m args below meth c T h xs cells slots) {xs' : List Addr} (hs : ∀ x ∈ xs', x ∈ xs) : Wk nw EL n0 Z a0 own nm cd ml ret p l e R s m args below meth c T h xs' cells slots := by
  obtain ⟨vm0, k0, locs, X, eT, hS, hk, hn, hZ, ho, hE, hC, hF, hO, hxs, rest⟩ := W
  exact ⟨vm0, k0, locs, X, eT, hS, hk, hn, hZ, ho, hE, hC, hF, hO, fun x q => hxs x (hs x q), rest⟩
theorem Wk.exa (W : Wk nw EL n0 Z a0 own nm cd ml ret p l e R s m args below meth c T h xs cells slots) {x : Addr} {C : String} (E : Exa Z h x C) (hx : n0 ≤ x) (h1 : C ≠ "java/lang/String") (h2 : C ≠ "[B") : Wk nw EL n0 Z a0 own nm cd ml ret p l e R s m args below meth c T h (x :: xs) cells slots := by
  obtain ⟨vm0, k0, locs, X, eT, hS, hk, hn, hZ, ho, hE, hC, hF, hO, hxs, rest⟩ := W
  refine ⟨vm0, k0, locs, X, eT, hS, hk, hn, hZ, ho, hE, hC, hF, hO, fun y q => ?_, rest⟩
  rcases List.mem_cons.mp q with rfl | q
  · exact ⟨hx, E.lt, Safe.exa hZ.alike E h1 h2⟩
  · exact hxs y q
theorem Wk.arv (W : Wk nw EL n0 Z a0 own nm cd ml ret p l e R s m args below meth c T h xs cells slots) {x : Addr} {k : ClassId} {ty : FieldType} {z : Int32} {vs : List Value} {dv : Value} (E : Arv Z h x k ty z vs dv) (hx : n0 ≤ x) (h1 : ty ≠ .byte) : Wk nw EL n0 Z a0 own nm cd ml ret p l e R s m args below meth c T h (x :: xs) cells slots := by
  obtain ⟨vm0, k0, locs, X, eT, hS, hk, hn, hZ, ho, hE, hC, hF, hO, hxs, rest⟩ := W
  refine ⟨vm0, k0, locs, X, eT, hS, hk, hn, hZ, ho, hE, hC, hF, hO, fun y q => ?_, rest⟩
  rcases List.mem_cons.mp q with rfl | q
  · exact ⟨hx, E.lt, Safe.arv hZ.alike E h1⟩
  · exact hxs y q
/-- getfield -/
theorem Go.getf (W : Wk nw EL n0 Z a0 own nm cd ml ret p l e R s m args below meth c T h xs cells slots) {R0 O f ty : String} {ix : Nat} {a : Addr} {v : Value} (d : Dec cd pc (.getfield ix) 3 n) (w : (Cond.fieldLink own ix R0 f ty).before a0 Z = true) (via : Via Z R0 O f ty) (Fl : Fld Z h a O f ty v)
    (k : ∀ T', Wk nw EL n0 Z a0 own nm cd ml ret p l e R s m args below meth c T' h xs cells slots → Go p e below F T' (mkF m n L (v :: r))) : Go p e below F T (mkF m pc L (.ref a :: r)) := by
  obtain ⟨vm0, k0, locs, X, eT, hS, hk, hn, hZ, ho, hE, hC, hF, hO, hxs, hx, hby, rest⟩ := W
  obtain ⟨d, rfl⟩ := d
  obtain ⟨T', X', e', st⟩ := getF X hx hZ ho (host := "") (Or.inl w) via eT Fl (g := mkF m pc L (.ref a :: r)) rfl rfl (hb hby d)
  exact Go.st st (k T' ⟨vm0, k0, locs, X', e', hS, hk, hn, hZ, ho, hE, hC, hF, hO, hxs, hx, hby, rest⟩)
/-- getstatic -/
theorem Go.gets (W : Wk nw EL n0 Z a0 own nm cd ml ret p l e R s m args below meth c T h xs cells slots) {R0 O f ty : String} {ix : Nat} {v : Value} (d : Dec cd pc (.getstatic ix) 3 n) (w : (Cond.fieldLink own ix R0 f ty).before a0 Z = true) (via : Via Z R0 O f ty) (Fl : Sta Z Z.heap O f ty v)
    (k : ∀ T', Wk nw EL n0 Z a0 own nm cd ml ret p l e R s m args below meth c T' h xs cells slots → Go p e below F T' (mkF m n L (v :: r))) : Go p e below F T (mkF m pc L r) := by
  obtain ⟨vm0, k0, locs, X, eT, hS, hk, hn, hZ, ho, hE, hC, hF, hO, hxs, hx, hby, rest⟩ := W
  obtain ⟨d, rfl⟩ := d
  obtain ⟨T', X', e', st⟩ := getS (host := "") X hx hZ ho w via eT (Fl.ext hO.2) (g := mkF m pc L r) rfl (hb hby d)
  exact Go.st st (k T' ⟨vm0, k0, locs, X', e', hS, hk, hn, hZ, ho, hE, hC, hF, hO, hxs, hx, hby, rest⟩)
/-- putfield on an object of the walk's own -/
theorem Go.putf (W : Wk nw EL n0 Z a0 own nm cd ml ret p l e R s m args below meth c T h xs cells slots) {R0 O f ty C : String} {ix kk : Nat} {t : FieldType} {a : Addr} {v v' old : Value} (d : Dec cd pc (.putfield ix) 3 n) (w : (Cond.fieldLink own ix R0 f ty).before a0 Z = true) (via : Via Z R0 O f ty) (Fl : Fld Z h a O f ty old) (E : Exa Z h a C)
    (hl : (Cond.lays C O f ty).before a0 Z = true ∨ ((Cond.laysFinal C O f ty).before a0 Z = true ∧ own = O ∧ nm = "<init>")) (wi : (Cond.instantiable C kk).before a0 Z = true) (hty : parseFieldDescriptor ty = some t) (hnv : narrow t v = v') (hf : fits t v' = true) (ha : a ∈ xs)
    (k : ∀ T' h', Wk nw EL n0 Z a0 own nm cd ml ret p l e R s m args below meth c T' h' xs cells slots → Wr h h' a (RoadKit.slotOf Z O f ty) v' → Go p e below F T' (mkF m n L r)) : Go p e below F T (mkF m pc L (v :: .ref a :: r)) := by
  obtain ⟨vm0, k0, locs, X, eT, hS, hk, hn, hZ, ho, hE, hC, hF, hO, hxs, hx, hby, hml, hrt, hlk, hnm⟩ := W
  obtain ⟨d, rfl⟩ := d
  obtain ⟨T', h', X', e', Wr', st⟩ := putFN X hx hZ ho w via eT Fl E (hl.imp id fun q => ⟨q.1, q.2.1, hnm.trans q.2.2⟩) wi hty hnv hf (g := mkF m pc L (v :: .ref a :: r)) rfl rfl (hb hby d)
  have q := hxs a ha
  have C1 := CHr.wr Wr' q.2.2 hC.1
  have sz : h'.size = h.size := Wr'.size
  exact Go.st st (k T' h' ⟨vm0, k0, _, X', e', hS, by rw [sz]; exact hk, hn, hZ, ho, hE, hC.trans C1, Fr.snoc X' hF q.1, hO.wr Wr' q.1, fun x hm => ⟨(hxs x hm).1, by rw [sz]; exact (hxs x hm).2.1, C1.safe (hxs x hm).2.1 (hxs x hm).2.2⟩, hx, hby, hml, hrt, hlk, hnm⟩ Wr')
/-- new -/
theorem Go.new (W : Wk nw EL n0 Z a0 own nm cd ml ret p l e R s m args below meth c T h xs cells slots) {C : String} {ix kk cells' slots' : Nat} (d : Dec cd pc (.new ix) 3 n) (w : (Cond.classLink own ix C).before a0 Z = true) (wi : (Cond.instantiable C kk).before a0 Z = true) (wz : (Cond.initialized C).before a0 Z = true)
    (hc : cells + 1 = cells') (hs : slots + kk = slots') (hc' : cells' ≤ R.cells) (hs' : slots' ≤ R.slots)
    (k : ∀ T' h' a, a = h.size → Wk nw EL n0 Z a0 own nm cd ml ret p l e R s m args below meth c T' h' (a :: xs) cells' slots' → Ext h h' → Exa Z h' a C → (∀ {O f ty : String} {t : FieldType}, Laid Z a0 C O f ty → parseFieldDescriptor ty = some t → Fld Z h' a O f ty (defaultValue t)) → Go p e below F T' (mkF m n L (.ref a :: r))) : Go p e below F T (mkF m pc L r) := by
  obtain ⟨vm0, k0, locs, X, eT, hS, hk, hn, hZ, ho, hE, hC, hF, hO, hxs, hx, hby, rest⟩ := W
  obtain ⟨d, rfl⟩ := d
  subst hc hs
  obtain ⟨T', h', X', e', E, A, D, -, st⟩ := newO X hx hZ ho w wi wz eT (g := mkF m pc L r) rfl (hb hby d) hc' hs'
  have C1 := CHr.ext E hC.1
  refine Go.st st (k T' h' h.size rfl ⟨vm0, k0, locs, X', e', hS, Nat.le_trans hk E.1, hn, hZ, ho, hE, hC.trans C1, hF, hO.ext E, fun x hm => ?_, hx, hby, rest⟩ E A (fun l t => D l t))
  rcases List.mem_cons.mp hm with rfl | hm
  · exact ⟨old_le hO, A.lt, Safe.ext E hC.1 (Safe.new (Nat.le_refl _))⟩
  · exact ⟨(hxs x hm).1, Nat.lt_of_lt_of_le (hxs x hm).2.1 E.1, C1.safe (hxs x hm).2.1 (hxs x hm).2.2⟩
/-- newarray -/
theorem Go.newarr (W : Wk nw EL n0 Z a0 own nm cd ml ret p l e R s m args below meth c T h xs cells slots) {aty : ArrayType} {z : Int32} {cap cells' slots' : Nat} (d : Dec cd pc (.newarray aty) 2 n) (w : (Cond.arrayClass (newarray.typeOf aty)).before a0 Z = true)
    (hz : ¬ z < 0) (hcap : z.toNatClampNeg ≤ cap) (hbig : cap * 8 ≤ 536870912) (hc : cells + 1 = cells') (hs : slots + cap = slots') (hc' : cells' ≤ R.cells) (hs' : slots' ≤ R.slots)
    (k : ∀ T' h' a ka, a = h.size → Wk nw EL n0 Z a0 own nm cd ml ret p l e R s m args below meth c T' h' (a :: xs) cells' slots' → Ext h h' → Arv Z h' a ka (newarray.typeOf aty) z [] (defaultValue (newarray.typeOf aty)) → Go p e below F T' (mkF m n L (.ref a :: r))) : Go p e below F T (mkF m pc L (.int z :: r)) := by
  obtain ⟨vm0, k0, locs, X, eT, hS, hk, hn, hZ, ho, hE, hC, hF, hO, hxs, hx, hby, rest⟩ := W
  obtain ⟨d, rfl⟩ := d
  subst hc hs
  obtain ⟨T', h', cA, X', e', E, A, st⟩ := newP X hx hZ w eT (g := mkF m pc L (.int z :: r)) rfl (hb hby d) rfl hz hcap hbig hc' hs'
  have C1 := CHr.ext E hC.1
  refine Go.st st (k T' h' h.size cA rfl ⟨vm0, k0, locs, X', e', hS, Nat.le_trans hk E.1, hn, hZ, ho, hE, hC.trans C1, hF, hO.ext E, fun x hm => ?_, hx, hby, rest⟩ E (Arv.new A hz))
  rcases List.mem_cons.mp hm with rfl | hm
  · exact ⟨old_le hO, A.lt, Safe.ext E hC.1 (Safe.new (Nat.le_refl _))⟩
  · exact ⟨(hxs x hm).1, Nat.lt_of_lt_of_le (hxs x hm).2.1 E.1, C1.safe (hxs x hm).2.1 (hxs x hm).2.2⟩
/-- Object.<init> -/
theorem Go.initObj (W : Wk nw EL n0 Z a0 own nm cd ml ret p l e R s m args below meth c T h xs cells slots) {ix wt : Nat} {a : Addr} (d : Dec cd pc (.invokespecial ix) 3 n) (w1 : (Cond.methodLink own ix Lib.objectInit).before a0 Z = true) (w2 : (Cond.instanceMethod Lib.objectInit).before a0 Z = true) (w3 : (Cond.code Lib.objectInit ⟨#[0xb1]⟩ 1 none).before a0 Z = true)
    (hsz : L.size = ml) (hf : 1 ≤ R.frames) (hw : (r.map fun v => v.category).sum = wt) (hl : wt + 12 ≤ R.locals)
    (k : ∀ T', Wk nw EL n0 Z a0 own nm cd ml ret p l e R s m args below meth c T' h xs cells slots → Go p e below F T' (mkF m n L r)) : Go p e below F T (mkF m pc L (.ref a :: r)) := by
  obtain ⟨vm0, k0, locs, X, eT, hS, hk, hn, hZ, ho, hE, hC, hF, hO, hxs, hx, hby, hml, rest⟩ := W
  obtain ⟨d, rfl⟩ := d
  obtain ⟨T', X', e', st⟩ := initO X hx hZ ho w1 w2 w3 eT (g := mkF m pc L (.ref a :: r)) rfl (hsz.trans hml.symm) rfl (hb hby d) hf (W := wt) (by show 2 * 0 + _ ≤ _; omega) hl
  exact Go.st st (k T' ⟨vm0, k0, locs, X', e', hS, hk, hn, hZ, ho, hE, hC, hF, hO, hxs, hx, hby, hml, rest⟩)
/-- a char[] of the walk, its chars -/
def CArr (Z : State) (h : Heap) (a : Addr) (ka : ClassId) (cs : List Int32) : Prop := Arv Z h a ka .char (Int32.ofNat cs.length) (cs.map Value.int) (.int 0)
theorem CArr.lt {a : Addr} {ka : ClassId} {cs : List Int32} (A : CArr Z h a ka cs) : a < h.size := Arv.lt A
theorem CArr.ext {h' : Heap} {a : Addr} {ka : ClassId} {cs : List Int32} (A : CArr Z h a ka cs) (E : Ext h h') : CArr Z h' a ka cs := Arv.ext A E
theorem CArr.keep {h' : Heap} {a : Addr} {ka : ClassId} {cs : List Int32} {ws : List Addr} (A : CArr Z h a ka cs) (K : Keep h h' ws) (q : a ∉ ws) : CArr Z h' a ka cs := Arv.keep A K q
theorem clamp_nat {i : Nat} (h : i < 2 ^ 31) : (Int32.ofNat i).toNatClampNeg = i := LawKit.clamp_of rfl h
theorem CArr.of_new {a : Addr} {ka : ClassId} {z : Int32} (A : Arv Z h a ka .char z [] (.int 0)) {cs : List Int32} {k : Nat} (hc : cs = List.replicate k 0) (hz : z = Int32.ofNat k) : CArr Z h a ka cs := by
  subst hc hz
  unfold CArr
  rw [List.length_replicate, List.map_replicate]
  exact Arv.pad A (fun i => by simpa using pad_rep [] (.int 0) k i)
theorem in_of {i k : Nat} {z : Int32} (hz : z = Int32.ofNat k) (hi : i < k) (hk : k < 2 ^ 31) : ¬ (Int32.ofNat i) < 0 ∧ (Int32.ofNat i) < z := by
  subst hz
  rw [Int32.lt_iff_toInt_lt, Int32.lt_iff_toInt_lt, LawKit.toInt_of (n := Int32.ofNat i) rfl (by omega), LawKit.toInt_of (n := Int32.ofNat k) rfl hk]
  constructor
  · show ¬ (i : Int) < 0; omega
  · omega
/-- castore into a char[] of the walk's own -/
theorem Go.castore (W : Wk nw EL n0 Z a0 own nm cd ml ret p l e R s m args below meth c T h xs cells slots) {a : Addr} {ka : ClassId} {cs : List Int32} {j x x' : Int32} (i : Nat) (d : Dec cd pc .castore 1 n) (A : CArr Z h a ka cs) (ha : a ∈ xs) (hj : j = Int32.ofNat i) (hi : i < cs.length) (hlen : cs.length < 2 ^ 31) (hx' : nar .char x = x')
    (k : ∀ T' h', Wk nw EL n0 Z a0 own nm cd ml ret p l e R s m args below meth c T' h' xs cells slots → Keep h h' [a] → CArr Z h' a ka (cs.set i x') → Go p e below F T' (mkF m n L r)) : Go p e below F T (mkF m pc L (.int x :: .int j :: .ref a :: r)) := by
  obtain ⟨vm0, k0, locs, X, eT, hS, hk, hn, hZ, ho, hE, hC, hF, hO, hxs, hx, hby, rest⟩ := W
  obtain ⟨d, rfl⟩ := d
  subst hx' hj
  obtain ⟨cl, A1, q1, S1, M1, H1, U1⟩ := id A
  have hin := inb_of S1 (in_of rfl hi hlen)
  obtain ⟨T', h', X', e', Wr', st⟩ := stC X hx hZ eT A1 hin (g := mkF m pc L (.int x :: .int (Int32.ofNat i) :: .ref a :: r)) rfl rfl (hb hby d)
  have q := hxs a ha
  have C1 := CHr.wr Wr' q.2.2 hC.1
  have sz : h'.size = h.size := Wr'.size
  have A2 : CArr Z h' a ka (cs.set i (nar .char x)) := by
    have B := Arv.set A1 q1 S1 M1 H1 U1 (fits_nar_char x) Wr' i (clamp_nat (by omega)) (by simpa using hi)
    unfold CArr
    rw [List.length_set, List.map_set]
    exact B
  exact Go.st st (k T' h' ⟨vm0, k0, _, X', e', hS, by rw [sz]; exact hk, hn, hZ, ho, hE, hC.trans C1, Fr.snoc X' hF q.1, hO.wr Wr' q.1, fun x hm => ⟨(hxs x hm).1, by rw [sz]; exact (hxs x hm).2.1, C1.safe (hxs x hm).2.1 (hxs x hm).2.2⟩, hx, hby, rest⟩ (Keep.of_wr Wr') A2)
/-- caload -/
theorem Go.caload (W : Wk nw EL n0 Z a0 own nm cd ml ret p l e R s m args below meth c T h xs cells slots) {a : Addr} {ka : ClassId} {cs : List Int32} {j v : Int32} (i : Nat) (d : Dec cd pc .caload 1 n) (A : CArr Z h a ka cs) (hj : j = Int32.ofNat i) (hi : i < cs.length) (hlen : cs.length < 2 ^ 31) (hv : cs.getD i 0 = v)
    (k : Go p e below F T (mkF m n L (.int v :: r))) : Go p e below F T (mkF m pc L (.int j :: .ref a :: r)) := by
  obtain ⟨vm0, k0, locs, X, eT, hS, hk, hn, hZ, ho, hE, hC, hF, hO, hxs, hx, hby, rest⟩ := W
  obtain ⟨d, rfl⟩ := d
  subst hj
  obtain ⟨cl, A1, q1, S1, M1, H1, U1⟩ := id A
  have hin := inb_of S1 (in_of rfl hi hlen)
  have hat := Has.at (v := .int v) H1 hin (by rw [clamp_nat (by omega)]; simp only [List.getD_eq_getElem?_getD, List.getElem?_map] at hv ⊢; rw [List.getElem?_eq_getElem hi] at hv ⊢; simpa using hv)
  exact Go.st (fun t st => X.caload hx (by rw [eT]; exact A1.1) (State.isArrayOf_alike hZ.alike A1.2.1) A1.2.2 hin hat (g := mkF m pc L (.int (Int32.ofNat i) :: .ref a :: r)) rfl rfl (hb hby d) t st) k
/-- arraylength -/
theorem Go.alen (W : Wk nw EL n0 Z a0 own nm cd ml ret p l e R s m args below meth c T h xs cells slots) {a : Addr} {ka : ClassId} {ty : FieldType} {z : Int32} {vs : List Value} {dv : Value} (d : Dec cd pc .arraylength 1 n) (A : Arv Z h a ka ty z vs dv)
    (k : Go p e below F T (mkF m n L (.int z :: r))) : Go p e below F T (mkF m pc L (.ref a :: r)) := by
  obtain ⟨vm0, k0, locs, X, eT, hS, hk, hn, hZ, ho, hE, hC, hF, hO, hxs, hx, hby, rest⟩ := W
  obtain ⟨d, rfl⟩ := d
  obtain ⟨cl, A1, q1, S1, M1, H1, U1⟩ := id A
  have e1 := len_of S1 M1
  exact Go.st (fun t st => X.arraylength hx (by rw [eT]; exact A1.1) (State.isArrayOf_alike hZ.alike A1.2.1) (g := mkF m pc L (.ref a :: r)) rfl rfl (hb hby d) t (by rw [e1]; exact st)) k
/-- ldc of an int -/
theorem Go.ldcI (W : Wk nw EL n0 Z a0 own nm cd ml ret p l e R s m args below meth c T h xs cells slots) {ix : Nat} {v : Int32} (d : Dec cd pc (.ldc ix) 2 n) (w : (Cond.constant own ix v).before a0 Z = true)
    (k : Go p e below F T (mkF m n L (.int v :: r))) : Go p e below F T (mkF m pc L r) := by
  obtain ⟨vm0, k0, locs, X, eT, hS, hk, hn, hZ, ho, hE, hC, hF, hO, hxs, hx, hby, rest⟩ := W
  obtain ⟨d, rfl⟩ := d
  exact Go.st (fun t st => X.ldcInt hx ho (mv hZ w) (g := mkF m pc L r) rfl (hb hby d) t st) k
theorem Go.ldc2J (W : Wk nw EL n0 Z a0 own nm cd ml ret p l e R s m args below meth c T h xs cells slots) {ix : Nat} {v : Int64} (d : Dec cd pc (.ldc2_w ix) 3 n) (w : (Cond.constantLong own ix v).before a0 Z = true)
    (k : Go p e below F T (mkF m n L (.long v :: r))) : Go p e below F T (mkF m pc L r) := by
  obtain ⟨vm0, k0, locs, X, eT, hS, hk, hn, hZ, ho, hE, hC, hF, hO, hxs, hx, hby, rest⟩ := W
  obtain ⟨d, rfl⟩ := d
  exact Go.st (fun t st => X.ldc2Long hx ho (mv hZ w) (g := mkF m pc L r) rfl (hb hby d) t st) k
/-! the ends -/
theorem Go.fin (W : Wk nw EL n0 Z a0 own nm cd ml ret p l e R s m args below meth c T h xs cells slots) {kc ks : Nat} {Q : Option Value → Heap → Prop} {v : Option Value} {g : JFrame} (hc : cells ≤ kc) (hs : slots ≤ ks) (hQ : Q v h) (hv : ret = none → v = none)
    (st : ∀ vm0 locs fs, Stand p l e R (s.setVm vm0) m args below meth c T locs cells slots → p.tables.exec = Jvm.exec → c.code = cd → meth.sig.returnType = ret → (∀ (f : JFrame) (acts : List Action), f.method = m → f.locked = none → f.entered = [] → (doReturn e (T.setTop f) acts v).1 = T.setFrames fs) → Steps p.tables e below (T.setTop g) (T.setFrames fs)) :
    Go p e below (Endp nw EL n0 Z below s kc ks Q) T g := by
  obtain ⟨vm0, k0, locs, X, eT, hS, hk, hn, hZ, ho, hE, hC, hF, hO, hxs, hx, hby, hml, hrt, hlk, hnm⟩ := W
  obtain ⟨fs, hr, hrun, hended, r1, r2, r3, r4⟩ := X.leaveW hS (by rw [eT]; exact hk) (v := v) (fun q => hv (hrt ▸ q)) hlk
  have eh : (T.setFrames fs).heap = h := eT
  refine ⟨T.setFrames fs, st vm0 locs fs X hx hby hrt hr, hrun, v, locs, hended, by rw [eh]; exact hQ, hF, by rw [eh]; exact hO, ?_, ⟨r1, r2, r3, r4.mono hc hs⟩, fun q => ?_⟩
  · show CHr Z EL s.vm s.heap T.vm T.heap
    rw [eT]; exact hC.trans (CHv.at X hZ hE hC.1)
  · exact State.WarmedH.trans (t := s.setVm vm0) (hn q) X.warmed
theorem Go.iret (W : Wk nw EL n0 Z a0 own nm cd ml (some t) p l e R s m args below meth c T h xs cells slots) {kc ks : Nat} {Q : Option Value → Heap → Prop} {z : Int32} (d : Dec cd pc .ireturn 1 n) (ht : t = .int ∨ t = .boolean ∨ t = .byte ∨ t = .char ∨ t = .short) (hn : narrow t (.int z) = .int z) (hc : cells ≤ kc) (hs : slots ≤ ks) (hQ : Q (some (.int z)) h) :
    Go p e below (Endp nw EL n0 Z below s kc ks Q) T (mkF m pc L (.int z :: r)) :=
  Go.fin W hc hs hQ (fun q => nomatch q) (fun vm0 locs fs X hx hby hrt hr => retOut X hx hrt hn (Or.inl ⟨rfl, ht, z, rfl⟩) (hb hby d.1) hr)
theorem Go.aret (W : Wk nw EL n0 Z a0 own nm cd ml (some t) p l e R s m args below meth c T h xs cells slots) {kc ks : Nat} {Q : Option Value → Heap → Prop} {v : Value} (d : Dec cd pc .areturn 1 n) (ht : t.isReference = true) (hv : v.isRef = true) (hn : narrow t v = v) (hc : cells ≤ kc) (hs : slots ≤ ks) (hQ : Q (some v) h) :
    Go p e below (Endp nw EL n0 Z below s kc ks Q) T (mkF m pc L (v :: r)) :=
  Go.fin W hc hs hQ (fun q => nomatch q) (fun vm0 locs fs X hx hby hrt hr => retOut X hx hrt hn (Or.inr (Or.inr (Or.inr (Or.inr ⟨rfl, ht, hv⟩)))) (hb hby d.1) hr)
theorem Go.vret (W : Wk nw EL n0 Z a0 own nm cd ml none p l e R s m args below meth c T h xs cells slots) {kc ks : Nat} {Q : Option Value → Heap → Prop} (d : Dec cd pc .return_ 1 n) (hc : cells ≤ kc) (hs : slots ≤ ks) (hQ : Q none h) :
    Go p e below (Endp nw EL n0 Z below s kc ks Q) T (mkF m pc L []) :=
  Go.fin W hc hs hQ (fun _ => rfl) (fun vm0 locs fs X hx hby hrt hr => X.returnOut hx hrt (hb hby d.1) hr)
/-! contracts -/
theorem Ctr.body {y : MethodName} {bytes : ByteArray} {maxL : Nat} {rm : Room} {as' : Array Value} {Q : Option Value → Heap → Prop} {L0 : Array Slot} (hpn : plainName y.cls = true) (hE : EW Z a0 EL) (hO : Old Z n0 h) (hxs : ∀ x ∈ xs, n0 ≤ x ∧ x < h.size) (ef : ∀ m, entryFrame m as' maxL = mkF m 0 L0 [])
    (hB : ∀ p e s m below meth c T, Wk nw EL n0 Z a0 y.cls y.name bytes maxL ret p l e rm s m as' below meth c T h xs 0 0 → Go p e below (Endp nw EL n0 Z below s rm.cells rm.slots Q) T (mkF m 0 L0 [])) :
    Ctr nw EL n0 Z xs l y bytes maxL ret rm as' h Q := by
  intro ws
  refine MetFree.of_bodySF (plainFor_of_name hpn) hisR ?_
  intro p e s m args below meth c s₁ Bd hml hP hK
  obtain ⟨rfl, hh, hZ, hCH, hS⟩ := hP
  have X0 : Stand p l e rm s m args below meth c s₁ [] 0 0 := Stand.of_body Bd
  have e0 : s₁.heap = h := by rw [← hh, Bd.state]; rfl
  have W : Wk nw EL n0 Z a0 y.cls y.name bytes maxL ret p l e rm s m args below meth c s₁ h xs 0 0 :=
    ⟨s.vm, 0, [], X0, e0, (State.WarmedH.refl s).since 0, Nat.zero_le _, fun _ => State.WarmedH.refl s, hZ, findClass_of_methodNamed Bd.named, hE, by rw [hh]; exact CHr.refl hCH, Fr.nil n0, hO, fun x hm => ⟨(hxs x hm).1, (hxs x hm).2, hS x hm⟩, Bd.exec, Bd.bytes, hml, Bd.returns, Bd.notSynchronized, (name_of_methodNamed Bd.named Bd.method).1⟩
  obtain ⟨t, st, hrun, v, Lc, hend, q1, q2, q3, q4, q5, q6⟩ := hB p e s m below meth c s₁ W
  exact ⟨t, .returned v, castTop (ef m) st, hrun, hend, v, Lc, rfl, q1, q2, q3, q4, q5, q6⟩
theorem Ctr.call {y : MethodName} {bytes : ByteArray} {maxL : Nat} {rt : Option FieldType} {rm : Room} {as' : Array Value} {Q : Option Value → Heap → Prop} {xs' : List Addr} {wt len : Nat} (hM : Ctr nw EL n0 Z xs' l y bytes maxL rt rm as' h Q) (hE : EW Z a0 EL) (wc : (Cond.code y bytes maxL rt).before a0 Z = true) (wz : (Cond.initialized y.cls).before a0 Z = true)
    (hxs : ∀ x ∈ xs', x ∈ xs) (hf : rm.frames + 1 ≤ R.frames) (hl : wt + (maxL + 11) + rm.locals ≤ R.locals) : Call nw EL n0 Z xs l R p e below s args y len wt as' h rm.cells rm.slots Q := by
  intro vm0 hZ hCH hO hX
  refine BackS.of_freeW (bytes := bytes) (maxL := maxL) (ret := rt) (E := fun _ first o t Lc k n => k = rm.cells ∧ n = rm.slots ∧ (∃ v, o = .returned v ∧ Q v t.heap) ∧ Fr n0 Lc ∧ Old Z n0 t.heap ∧ CHr Z EL first.vm first.heap t.vm t.heap ∧ (nw → first.WarmedH t.vm)) (hM []) hf hl ?_ ?_ (fun _ _ _ _ _ _ _ _ _ => trivial) ?_ ?_
  · intro m meth c A a Y hp
    have hU : Z.Warmed39 A.U.vm := wtrans (s := s.setVm vm0) hZ Y.warmed
    exact ⟨by show (Cond.and _ .tt).before a A.U = true; rw [Cond.before_and, mv hU wc]; rfl, mv hU wc, mv hU wz, hp.2.2.1, hp.2.2.2⟩
  · intro m meth c A a g mk Y hp
    have K := CHv.at Y hZ hE hCH
    exact ⟨hp.1, hp.2.1, wtrans (s := s.setVm vm0) hZ Y.warmed, K.1, fun x hm => K.safe (hX x (hxs x hm)).2.1 (hX x (hxs x hm)).2.2⟩
  · rintro a first o t ⟨v, Lc, h1, h2, h3, h4, h5, h6, h7⟩
    exact ⟨Lc, _, _, h6, rfl, rfl, ⟨v, h1, h2⟩, h3, h4, h5, h7⟩
  · rintro m meth c A a g mk v t Lc k n Y hp hq hR ⟨e1, e2, ⟨v', e3, e4⟩, e5, e6, e7, e8⟩
    cases e3; subst e1 e2
    refine ⟨Lc, e4, rfl, rfl, rfl, e5, e6, (CHv.at Y hZ hE hCH).trans ?_, fun q => ?_⟩
    · rw [← hp.2.1]; exact e7
    · exact State.WarmedH.trans (t := (A.U.calling g mk a)) Y.warmed (e8 q)
theorem Call.of_back {y : MethodName} {as' : Array Value} {Q : Option Value → Heap → Prop} {Qb : Option Value → Heap → List Loc → Prop} {len wt kc ks : Nat} (hE : EW Z a0 EL)
    (hB : ∀ vm0, Z.Warmed39 vm0 → Old Z n0 h → Back l R p e below (s.setVm vm0) args y len wt (fun A a => a = as' ∧ A.U.heap = h ∧ A.cells + kc ≤ R.cells ∧ A.slots + ks ≤ R.slots) (fun A _ v B => ∃ Lc, Qb v B.U.heap Lc ∧ B.locs = A.locs ++ Lc ∧ B.cells = A.cells + kc ∧ B.slots = A.slots + ks))
    (hQ : ∀ v h' Lc, Old Z n0 h → Qb v h' Lc → Q v h' ∧ Fr n0 Lc ∧ ∃ ws, Keep h h' ws ∧ ∀ x ∈ ws, x ∈ xs) : Call nw EL n0 Z xs l R p e below s args y len wt as' h kc ks Q := by
  intro vm0 hZ hCH hO hX m meth c A g ig mk a X hg hsize hdg hW hn hp
  obtain ⟨v, B, X', ⟨Lc, q, r1, r2, r3⟩, st⟩ := hB vm0 hZ hO m meth c A g ig mk a X hg hsize hdg hW hn hp
  obtain ⟨hq, hF, ws, K, hws⟩ := hQ v _ Lc hO q
  have C1 : CHr Z EL vm0 h vm0 B.U.heap := CHr.keep K (fun x hm => (hX x (hws x hm)).2.2) hCH
  exact ⟨v, B, X'.retabled X'.warmed.wide, X'.warmed.since _, by rw [hp.2.1]; exact K.1, ⟨Lc, hq, r1, r2, r3, hF, hO.keep K (fun x hm => (hX x (hws x hm)).1), C1.trans (CHv.at X' hZ hE C1.1), fun _ => X'.warmed⟩, st⟩
theorem Call.mono {y : MethodName} {as' : Array Value} {Q : Option Value → Heap → Prop} {len wt kc ks kc' ks' : Nat} (hK : Call nw EL n0 Z xs l R p e below s args y len wt as' h kc ks Q) (h1 : kc ≤ kc') (h2 : ks ≤ ks') : Call nw EL n0 Z xs l R p e below s args y len wt as' h kc' ks' Q := by
  intro vm0 hZ hCH hO hX m meth c A g ig mk a X hg hsize hdg hW hn hp
  obtain ⟨v, B, X', hS, hg', ⟨Lc, q, r1, r2, r3, rest⟩, st⟩ := hK vm0 hZ hCH hO hX m meth c A g ig mk a X hg hsize hdg hW hn ⟨hp.1, hp.2.1, Nat.le_trans (Nat.add_le_add_left h1 _) hp.2.2.1, Nat.le_trans (Nat.add_le_add_left h2 _) hp.2.2.2⟩
  exact ⟨v, ⟨B.U, B.locs, A.cells + kc', A.slots + ks'⟩, ⟨X'.admits, X'.cas, X'.clock, X'.frames, X'.room, X'.hears, X'.method, X'.code, X'.here, X'.tail, X'.warmed, X'.limits, X'.bytes, X'.same.mono (by rw [r2]; exact Nat.add_le_add_left h1 _) (by rw [r3]; exact Nat.add_le_add_left h2 _)⟩, hS, hg', ⟨Lc, q, r1, rfl, rfl, rest⟩, st⟩
theorem Call.weaken {y : MethodName} {as' : Array Value} {Q Q' : Option Value → Heap → Prop} {len wt kc ks : Nat} (hK : Call nw EL n0 Z xs l R p e below s args y len wt as' h kc ks Q) (hq : ∀ v h', Q v h' → Q' v h') : Call nw EL n0 Z xs l R p e below s args y len wt as' h kc ks Q' := by
  intro vm0 hZ hCH hO hX m meth c A g ig mk a X hg hsize hdg hW hn hp
  obtain ⟨v, B, X', hS, hg', ⟨Lc, q, rest⟩, st⟩ := hK vm0 hZ hCH hO hX m meth c A g ig mk a X hg hsize hdg hW hn hp
  exact ⟨v, B, X', hS, hg', ⟨Lc, hq _ _ q, rest⟩, st⟩
theorem Wk.after {vm0 k0 locs} (X : Stand p l e R (s.setVm vm0) m args below meth c T locs cells slots) (eT : T.heap = h) (hS : s.Since vm0 k0) (hk : k0 ≤ h.size) (hn : nw → s.WarmedH vm0) (hZ : Z.Warmed39 vm0) (ho : vm0.findClass own = some m.cls) (hE : EW Z a0 EL) (hC : CHr Z EL s.vm s.heap vm0 h) (hF : Fr n0 locs) (hO : Old Z n0 h) (hxs : ∀ x ∈ xs, n0 ≤ x ∧ x < h.size ∧ Safe Z EL vm0 h x)
    (rest : p.tables.exec = Jvm.exec ∧ c.code = cd ∧ c.maxLocals = ml ∧ meth.sig.returnType = ret ∧ meth.locks = false ∧ meth.name = nm) {B : Pt} {kc ks : Nat} {Lc : List Loc} (X' : Stand p l e R ((s.setVm vm0).setVm B.U.vm) m args below meth c B.U B.locs B.cells B.slots) (hS2 : (s.setVm vm0).Since B.U.vm B.U.heap.size) (hg : T.heap.size ≤ B.U.heap.size)
    (r1 : B.locs = locs ++ Lc) (r2 : B.cells = cells + kc) (r3 : B.slots = slots + ks) (hF' : Fr n0 Lc) (hO' : Old Z n0 B.U.heap) (hC' : CHr Z EL vm0 h B.U.vm B.U.heap) (hn' : nw → (s.setVm vm0).WarmedH B.U.vm) :
    Wk nw EL n0 Z a0 own nm cd ml ret p l e R s m args below meth c B.U B.U.heap xs (cells + kc) (slots + ks) := by
  rw [r1, r2, r3] at X'
  exact ⟨B.U.vm, B.U.heap.size, _, X', rfl, hS.trans hS2 (Nat.le_trans hk (eT ▸ hg)), Nat.le_refl _, fun q => State.WarmedH.trans (t := s.setVm vm0) (hn q) (hn' q), State.Warmed39.trans (t := s.setVm vm0) hZ hS2.1, (hS2.1.alike.findClass _ _).trans ho, hE, hC.trans hC', hF.app hF', hO', fun x hm => ⟨(hxs x hm).1, Nat.lt_of_lt_of_le (hxs x hm).2.1 (eT ▸ hg), hC'.safe (hxs x hm).2.1 (hxs x hm).2.2⟩, rest⟩
/-- invokestatic by a contract -/
theorem Go.invs (W : Wk nw EL n0 Z a0 own nm cd ml ret p l e R s m args below meth c T h xs cells slots) {y : MethodName} {bytes : ByteArray} {maxL ix wt kc ks cells' slots' : Nat} {rt : Option FieldType} {argsL rest st0 : List Value} {Q : Option Value → Heap → Prop} {ps : List FieldType} {pr : Option FieldType} (hK : Call nw EL n0 Z xs l R p e below s args y 3 wt argsL.toArray h kc ks Q) (d : Dec cd pc (.invokestatic ix) 3 n)
    (w1 : (Cond.methodLink own ix y).before a0 Z = true) (w2 : (Cond.static y).before a0 Z = true) (w3 : (Cond.initialized y.cls).before a0 Z = true) (w4 : (Cond.code y bytes maxL rt).before a0 Z = true) (hy : y.cls ≠ "java/lang/invoke/MethodHandle" ∧ y.cls ≠ "java/lang/invoke/VarHandle")
    (hpd : parseMethodDescriptor y.desc = some ⟨ps, pr⟩) (hlen : argsL.length = ps.length) (hsz : L.size = ml) (hst : st0 = argsL.reverse ++ rest) (hw : (rest.map fun v => v.category).sum ≤ wt) (hc : cells + kc = cells') (hs : slots + ks = slots') (hc' : cells' ≤ R.cells) (hs' : slots' ≤ R.slots)
    (k : ∀ T' h' v, Wk nw EL n0 Z a0 own nm cd ml ret p l e R s m args below meth c T' h' xs cells' slots' → h.size ≤ h'.size → Q v h' → Go p e below F T' (mkF m n L (v.toList ++ rest))) : Go p e below F T (mkF m pc L st0) := by
  obtain ⟨vm0, k0, locs, X, eT, hS, hk, hn, hZ, ho, hE, hC, hF, hO, hxs, hx, hby, hml, rst⟩ := W
  obtain ⟨d, rfl⟩ := d
  subst hc hs hst
  obtain ⟨v, vm₁, B, hW1, X', hS2, hg, ⟨Lc, hq, r1, r2, r3, hF', hO', hC', hn'⟩, st⟩ := callSS X hx ho (mv hZ w1) (mv hZ w2) (mv hZ w3) (mv hZ w4) hy (hK vm0 hZ hC.1 hO hxs) (g := mkF m pc L (argsL.reverse ++ rest)) rfl (hsz.trans hml.symm) (argsL := argsL) (rest := rest) (lenOf hpd hlen) rfl (by show 2 * 0 + _ ≤ _; omega) (hb hby d) (fun _ _ => ⟨rfl, eT, hc', hs'⟩)
  exact Go.run st (k B.U B.U.heap v (Wk.after X eT hS hk hn hZ ho hE hC hF hO hxs ⟨hx, hby, hml, rst⟩ X' hS2 hg r1 r2 r3 hF' hO' hC' hn') (eT ▸ hg) hq)
/-- a constructor by a contract -/
theorem Go.invi (W : Wk nw EL n0 Z a0 own nm cd ml ret p l e R s m args below meth c T h xs cells slots) {y : MethodName} {bytes : ByteArray} {maxL ix wt kc ks cells' slots' : Nat} {argsL rest st0 : List Value} {b : Addr} {Q : Heap → Prop} {ps : List FieldType} {pr : Option FieldType} (hK : Call nw EL n0 Z xs l R p e below s args y 3 wt (.ref b :: argsL).toArray h kc ks (RN Q)) (d : Dec cd pc (.invokespecial ix) 3 n)
    (hy1 : y.name = "<init>") (w1 : (Cond.methodLink own ix y).before a0 Z = true) (w2 : (Cond.instanceMethod y).before a0 Z = true) (w4 : (Cond.code y bytes maxL none).before a0 Z = true) (hy : y.cls ≠ "java/lang/invoke/MethodHandle" ∧ y.cls ≠ "java/lang/invoke/VarHandle")
    (hpd : parseMethodDescriptor y.desc = some ⟨ps, pr⟩) (hlen : argsL.length = ps.length) (hsz : L.size = ml) (hst : st0 = argsL.reverse ++ .ref b :: rest) (hw : (rest.map fun v => v.category).sum ≤ wt) (hc : cells + kc = cells') (hs : slots + ks = slots') (hc' : cells' ≤ R.cells) (hs' : slots' ≤ R.slots)
    (k : ∀ T' h', Wk nw EL n0 Z a0 own nm cd ml ret p l e R s m args below meth c T' h' xs cells' slots' → h.size ≤ h'.size → Q h' → Go p e below F T' (mkF m n L rest)) : Go p e below F T (mkF m pc L st0) := by
  obtain ⟨vm0, k0, locs, X, eT, hS, hk, hn, hZ, ho, hE, hC, hF, hO, hxs, hx, hby, hml, rst⟩ := W
  obtain ⟨d, rfl⟩ := d
  subst hc hs hst
  obtain ⟨v, vm₁, B, hW1, X', hS2, hg, ⟨Lc, hq, r1, r2, r3, hF', hO', hC', hn'⟩, st⟩ := X.specialBackS hx hy1 ho (mv hZ w1) (mv hZ w2) (mv hZ w4) hy (hK vm0 hZ hC.1 hO hxs) (g := mkF m pc L (argsL.reverse ++ .ref b :: rest)) rfl (hsz.trans hml.symm) (Steps.refl _) (a := b) (argsL := argsL) (rest := rest) (lenOf hpd hlen) rfl (by show 2 * 0 + _ ≤ _; omega) (hb hby d) (fun _ _ => ⟨rfl, eT, hc', hs'⟩)
  obtain ⟨rfl, hq⟩ := hq
  exact Go.run st (k B.U B.U.heap (Wk.after X eT hS hk hn hZ ho hE hC hF hO hxs ⟨hx, hby, hml, rst⟩ X' hS2 hg r1 r2 r3 hF' hO' hC' hn') (eT ▸ hg) hq)
/-- invokevirtual by a contract -/
theorem Go.invv (W : Wk nw EL n0 Z a0 own nm cd ml ret p l e R s m args below meth c T h xs cells slots) {y z : MethodName} {C : String} {ix wt kc ks cells' slots' : Nat} {argsL rest st0 : List Value} {b : Addr} {Q : Option Value → Heap → Prop} {ps : List FieldType} {pr : Option FieldType} (hK : Call nw EL n0 Z xs l R p e below s args z 3 wt (.ref b :: argsL).toArray h kc ks Q) (d : Dec cd pc (.invokevirtual ix) 3 n)
    (w1 : (Cond.methodLink own ix y).before a0 Z = true) (w2 : (Cond.declares y).before a0 Z = true) (w3 : (Cond.selects C y z).before a0 Z = true) (w4 : (Cond.instanceMethod z).before a0 Z = true) (hy : y.cls ≠ "java/lang/invoke/MethodHandle" ∧ y.cls ≠ "java/lang/invoke/VarHandle") (E : Exa Z h b C)
    (hpd : parseMethodDescriptor y.desc = some ⟨ps, pr⟩) (hlen : argsL.length = ps.length) (hsz : L.size = ml) (hst : st0 = argsL.reverse ++ .ref b :: rest) (hw : (rest.map fun v => v.category).sum ≤ wt) (hc : cells + kc = cells') (hs : slots + ks = slots') (hc' : cells' ≤ R.cells) (hs' : slots' ≤ R.slots)
    (hnf : ∀ vm0, Z.Warmed39 vm0 → NotFace (s.setVm vm0) y)
    (k : ∀ T' h' v, Wk nw EL n0 Z a0 own nm cd ml ret p l e R s m args below meth c T' h' xs cells' slots' → h.size ≤ h'.size → Q v h' → Go p e below F T' (mkF m n L (v.toList ++ rest))) : Go p e below F T (mkF m pc L st0) := by
  obtain ⟨vm0, k0, locs, X, eT, hS, hk, hn, hZ, ho, hE, hC, hF, hO, hxs, hx, hby, hml, rst⟩ := W
  obtain ⟨d, rfl⟩ := d
  subst hc hs hst
  obtain ⟨cq, kq, qa, qb, qc⟩ := isOf (s := s.setVm vm0) hZ eT E
  obtain ⟨v, vm₁, B, hW1, X', hS2, hg, ⟨Lc, hq, r1, r2, r3, hF', hO', hC', hn'⟩, st⟩ := X.virtualBackS hx ho (mv hZ w1) (mv hZ w2) (hnf vm0 hZ) (mv hZ w3) (mv hZ w4) hy (hK vm0 hZ hC.1 hO hxs) qa qc (g := mkF m pc L (argsL.reverse ++ .ref b :: rest)) rfl (hsz.trans hml.symm) (Steps.refl _) (argsL := argsL) (rest := rest) (lenOf hpd hlen) rfl (by show 2 * 0 + _ ≤ _; omega) (hb hby d) (fun _ _ => ⟨rfl, eT, hc', hs'⟩)
  exact Go.run st (k B.U B.U.heap v (Wk.after X eT hS hk hn hZ ho hE hC hF hO hxs ⟨hx, hby, hml, rst⟩ X' hS2 hg r1 r2 r3 hF' hO' hC' hn') (eT ▸ hg) hq)

theorem Go.invs1 (W : Wk nw EL n0 Z a0 own nm cd ml ret p l e R s m args below meth c T h xs cells slots) {y : MethodName} {bytes : ByteArray} {maxL ix wt kc ks cells' slots' : Nat} {rt : Option FieldType} {argsL rest st0 : List Value} {Q : Value → Heap → Prop} {ps : List FieldType} {pr : Option FieldType} (hK : Call nw EL n0 Z xs l R p e below s args y 3 wt argsL.toArray h kc ks (RV Q)) (d : Dec cd pc (.invokestatic ix) 3 n)
    (w1 : (Cond.methodLink own ix y).before a0 Z = true) (w2 : (Cond.static y).before a0 Z = true) (w3 : (Cond.initialized y.cls).before a0 Z = true) (w4 : (Cond.code y bytes maxL rt).before a0 Z = true) (hy : y.cls ≠ "java/lang/invoke/MethodHandle" ∧ y.cls ≠ "java/lang/invoke/VarHandle")
    (hpd : parseMethodDescriptor y.desc = some ⟨ps, pr⟩) (hlen : argsL.length = ps.length) (hsz : L.size = ml) (hst : st0 = argsL.reverse ++ rest) (hw : (rest.map fun v => v.category).sum ≤ wt) (hc : cells + kc = cells') (hs : slots + ks = slots') (hc' : cells' ≤ R.cells) (hs' : slots' ≤ R.slots)
    (k : ∀ T' h' v, Wk nw EL n0 Z a0 own nm cd ml ret p l e R s m args below meth c T' h' xs cells' slots' → h.size ≤ h'.size → Q v h' → Go p e below F T' (mkF m n L (v :: rest))) : Go p e below F T (mkF m pc L st0) :=
  Go.invs W hK d w1 w2 w3 w4 hy hpd hlen hsz hst hw hc hs hc' hs' (fun T' h' v W' g q => by obtain ⟨w, rfl, q⟩ := q; exact k T' h' w W' g q)
theorem Go.invs0 (W : Wk nw EL n0 Z a0 own nm cd ml ret p l e R s m args below meth c T h xs cells slots) {y : MethodName} {bytes : ByteArray} {maxL ix wt kc ks cells' slots' : Nat} {rt : Option FieldType} {argsL rest st0 : List Value} {Q : Heap → Prop} {ps : List FieldType} {pr : Option FieldType} (hK : Call nw EL n0 Z xs l R p e below s args y 3 wt argsL.toArray h kc ks (RN Q)) (d : Dec cd pc (.invokestatic ix) 3 n)
    (w1 : (Cond.methodLink own ix y).before a0 Z = true) (w2 : (Cond.static y).before a0 Z = true) (w3 : (Cond.initialized y.cls).before a0 Z = true) (w4 : (Cond.code y bytes maxL rt).before a0 Z = true) (hy : y.cls ≠ "java/lang/invoke/MethodHandle" ∧ y.cls ≠ "java/lang/invoke/VarHandle")
    (hpd : parseMethodDescriptor y.desc = some ⟨ps, pr⟩) (hlen : argsL.length = ps.length) (hsz : L.size = ml) (hst : st0 = argsL.reverse ++ rest) (hw : (rest.map fun v => v.category).sum ≤ wt) (hc : cells + kc = cells') (hs : slots + ks = slots') (hc' : cells' ≤ R.cells) (hs' : slots' ≤ R.slots)
    (k : ∀ T' h', Wk nw EL n0 Z a0 own nm cd ml ret p l e R s m args below meth c T' h' xs cells' slots' → h.size ≤ h'.size → Q h' → Go p e below F T' (mkF m n L rest)) : Go p e below F T (mkF m pc L st0) :=
  Go.invs W hK d w1 w2 w3 w4 hy hpd hlen hsz hst hw hc hs hc' hs' (fun T' h' v W' g q => by obtain ⟨rfl, q⟩ := q; exact k T' h' W' g q)
theorem Go.invv1 (W : Wk nw EL n0 Z a0 own nm cd ml ret p l e R s m args below meth c T h xs cells slots) {y : MethodName} {C : String} {ix wt kc ks cells' slots' : Nat} {argsL rest st0 : List Value} {b : Addr} {Q : Value → Heap → Prop} {ps : List FieldType} {pr : Option FieldType} (hK : Call nw EL n0 Z xs l R p e below s args y 3 wt (.ref b :: argsL).toArray h kc ks (RV Q)) (d : Dec cd pc (.invokevirtual ix) 3 n)
    (w1 : (Cond.methodLink own ix y).before a0 Z = true) (w2 : (Cond.declares y).before a0 Z = true) (w3 : (Cond.selects C y y).before a0 Z = true) (w4 : (Cond.instanceMethod y).before a0 Z = true) (hy : y.cls ≠ "java/lang/invoke/MethodHandle" ∧ y.cls ≠ "java/lang/invoke/VarHandle") (E : Exa Z h b C)
    (hpd : parseMethodDescriptor y.desc = some ⟨ps, pr⟩) (hlen : argsL.length = ps.length) (hsz : L.size = ml) (hst : st0 = argsL.reverse ++ .ref b :: rest) (hw : (rest.map fun v => v.category).sum ≤ wt) (hc : cells + kc = cells') (hs : slots + ks = slots') (hc' : cells' ≤ R.cells) (hs' : slots' ≤ R.slots)
    (k : ∀ T' h' v, Wk nw EL n0 Z a0 own nm cd ml ret p l e R s m args below meth c T' h' xs cells' slots' → h.size ≤ h'.size → Q v h' → Go p e below F T' (mkF m n L (v :: rest))) : Go p e below F T (mkF m pc L st0) :=
  Go.invv W hK d w1 w2 w3 w4 hy E hpd hlen hsz hst hw hc hs hc' hs' (fun _ hZ => notFace_of_selects (args := #[]) (mvT hZ w3)) (fun T' h' v W' g q => by obtain ⟨w, rfl, q⟩ := q; exact k T' h' w W' g q)
theorem Go.invv0 (W : Wk nw EL n0 Z a0 own nm cd ml ret p l e R s m args below meth c T h xs cells slots) {y : MethodName} {C : String} {ix wt kc ks cells' slots' : Nat} {argsL rest st0 : List Value} {b : Addr} {Q : Heap → Prop} {ps : List FieldType} {pr : Option FieldType} (hK : Call nw EL n0 Z xs l R p e below s args y 3 wt (.ref b :: argsL).toArray h kc ks (RN Q)) (d : Dec cd pc (.invokevirtual ix) 3 n)
    (w1 : (Cond.methodLink own ix y).before a0 Z = true) (w2 : (Cond.declares y).before a0 Z = true) (w3 : (Cond.selects C y y).before a0 Z = true) (w4 : (Cond.instanceMethod y).before a0 Z = true) (hy : y.cls ≠ "java/lang/invoke/MethodHandle" ∧ y.cls ≠ "java/lang/invoke/VarHandle") (E : Exa Z h b C)
    (hpd : parseMethodDescriptor y.desc = some ⟨ps, pr⟩) (hlen : argsL.length = ps.length) (hsz : L.size = ml) (hst : st0 = argsL.reverse ++ .ref b :: rest) (hw : (rest.map fun v => v.category).sum ≤ wt) (hc : cells + kc = cells') (hs : slots + ks = slots') (hc' : cells' ≤ R.cells) (hs' : slots' ≤ R.slots)
    (k : ∀ T' h', Wk nw EL n0 Z a0 own nm cd ml ret p l e R s m args below meth c T' h' xs cells' slots' → h.size ≤ h'.size → Q h' → Go p e below F T' (mkF m n L rest)) : Go p e below F T (mkF m pc L st0) :=
  Go.invv W hK d w1 w2 w3 w4 hy E hpd hlen hsz hst hw hc hs hc' hs' (fun _ hZ => notFace_of_selects (args := #[]) (mvT hZ w3)) (fun T' h' v W' g q => by obtain ⟨rfl, q⟩ := q; exact k T' h' W' g q)
end Walk
section Strs
variable {Z : State} {h h' : Heap} {a : Addr} {cs : List Int32}
/-- a Latin-1 String and its chars -/
def Str (Z : State) (h : Heap) (a : Addr) (cs : List Int32) : Prop := Exa Z h a "java/lang/String" ∧ Fld Z h a "java/lang/String" "coder" "B" (.int 0) ∧ (∃ (b : Addr) (k : ClassId), Fld Z h a "java/lang/String" "value" "[B" (.ref b) ∧ Arv Z h b k .byte (Int32.ofNat cs.length) ((cs.map fun c => c.toInt8.toInt32).map Value.int) (.int 0)) ∧ (∀ c ∈ cs, ¬ c < 0 ∧ ¬ (255 : Int32) < c) ∧ cs.length ≤ 4000
theorem Str.exa (S : Str Z h a cs) : Exa Z h a "java/lang/String" := S.1
theorem Str.lt (S : Str Z h a cs) : a < h.size := S.1.lt
theorem Str.ext (S : Str Z h a cs) (E : Ext h h') : Str Z h' a cs := by
  obtain ⟨h1, h2, ⟨b, k, h3, h4⟩, r⟩ := S
  exact ⟨h1.ext E, h2.ext E, ⟨b, k, h3.ext E, h4.ext E⟩, r⟩
/-- over the writing of cells made since h0 -/
theorem ext_trans {h0 : Heap} (E : Ext h0 h) (E' : Ext h h') : Ext h0 h' := ⟨Nat.le_trans E.1 E'.1, fun x c q => E'.2 x c (E.2 x c q)⟩
theorem ext_refl (h : Heap) : Ext h h := ⟨Nat.le_refl _, fun _ _ q => q⟩
theorem ext_eq (e : h' = h) : Ext h h' := e ▸ ext_refl h
theorem ext_keep {h0 : Heap} {ws : List Addr} (E : Ext h0 h) (K : Keep h h' ws) (q : ∀ x ∈ ws, h0.size ≤ x) : Ext h0 h' :=
  ⟨Nat.le_trans E.1 K.1, fun x c r => K.2.1 x c (E.2 x c r) fun z => absurd (Array.getElem?_eq_some_iff.mp r).1 (Nat.not_lt.mpr (q x z))⟩
theorem keep_ext (E : Ext h h') : Keep h h' [] := (Keep.refl h []).ext E
/-- a String just made, not yet built -/
def NewS (Z : State) (h : Heap) (a : Addr) : Prop := Exa Z h a "java/lang/String" ∧ Fld Z h a "java/lang/String" "value" "[B" .null ∧ Fld Z h a "java/lang/String" "coder" "B" (.int 0)
theorem NewS.ext (S : NewS Z h a) (E : Ext h h') : NewS Z h' a := ⟨S.1.ext E, S.2.1.ext E, S.2.2.ext E⟩
theorem NewS.keep {ws : List Addr} (S : NewS Z h a) (K : Keep h h' ws) (q : a ∉ ws) : NewS Z h' a := ⟨S.1.keep K, S.2.1.keep K q, S.2.2.keep K q⟩
theorem nar_ok (x : Int32) : nar .char (x &&& 255) = x &&& 255 := i2c_mask x
theorem b255 (x : Int32) : ¬ (x &&& 255) < 0 ∧ ¬ (255 : Int32) < (x &&& 255) := by
  have t : ∀ k : Fin 256, ¬ (Int32.ofNat k.val) < 0 ∧ ¬ (255 : Int32) < (Int32.ofNat k.val) := by decide +kernel
  have h : (x &&& 255).toBitVec.toNat < 256 := by
    simp only [Int32.toBitVec_and, BitVec.toNat_and]
    exact Nat.lt_succ_of_le Nat.and_le_right
  have e : (x &&& 255) = Int32.ofNat (x &&& 255).toBitVec.toNat := by
    apply Int32.toBitVec_inj.mp
    show _ = BitVec.ofNat 32 _
    rw [BitVec.ofNat_toNat]; simp
  rw [e]
  exact t ⟨_, h⟩
theorem up_chars (cs : List Int32) (h : ∀ c ∈ cs, ¬ c < 0 ∧ ¬ (255 : Int32) < c) : ∀ c ∈ cs, ¬ c < 0 ∧ ¬ (65535 : Int32) < c := fun c hc => ⟨(h c hc).1, fun q => (h c hc).2 (by rw [Int32.lt_iff_toInt_lt] at q ⊢; have e1 : (65535 : Int32).toInt = 65535 := rfl; have e2 : (255 : Int32).toInt = 255 := rfl; omega)⟩
theorem all_nil {P : Int32 → Prop} : ∀ c ∈ ([] : List Int32), P c := fun _ q => nomatch q
theorem all_cons {P : Int32 → Prop} {x : Int32} {xs : List Int32} (h : P x) (r : ∀ c ∈ xs, P c) : ∀ c ∈ x :: xs, P c := fun c q => (List.mem_cons.mp q).elim (fun u => u ▸ h) (r c)
end Strs
section Ldc
variable {nw : Prop} {EL : List (String × Nat)} {n0 : Nat} {Z : State} {a0 : Array Value} {own nm : String} {cd : ByteArray} {ml : Nat} {ret : Option FieldType} {p : Program} {l : Launch} {e : Env} {R : Room} {s : State} {m : MethodId} {args : Array Value} {below : List Frame} {meth : Method} {c : Code} {T : State} {h : Heap} {xs : List Addr} {cells slots : Nat}
variable {F : State → Prop} {pc n : Nat} {L : Array Slot} {r : List Value}
/-- ldc of a String constant whose text is read -/
theorem Go.ldcS (W : Wk nw EL n0 Z a0 own nm cd ml ret p l e R s m args below meth c T h xs cells slots) {text : String} {ix nn cells' slots' : Nat} {cs : List Int32} (hnw : ¬ nw) (d : Dec cd pc (.ldc ix) 2 n) (w : (Cond.stringLink own ix text).before a0 Z = true) (wS : ∀ a ∈ Bundle.stringAtoms, a.before a0 Z = true) (hmem : (own, ix) ∈ EL)
    (ht : (∀ c ∈ text.toList, c.toNat < 256) ∧ text.toList.map (fun c => Value.int (Jvm.Lit.byteI c.toNat.toUInt16)) = ((cs.map fun c => c.toInt8.toInt32).map Value.int)) (hp : ∀ c ∈ cs, ¬ c < 0 ∧ ¬ (255 : Int32) < c) (hl4 : cs.length ≤ 4000) (hnn : 4 * text.toList.length ≤ nn) (hbig : nn ≤ 536870912) (hc : cells + 2 = cells') (hs : slots + (nn + 4) = slots') (hc' : cells' ≤ R.cells) (hs' : slots' ≤ R.slots)
    (k : ∀ T' h' a b kb, Wk nw EL n0 Z a0 own nm cd ml ret p l e R s m args below meth c T' h' xs cells' slots' → Ext h h' → Exa Z h' a "java/lang/String" → Fld Z h' a "java/lang/String" "coder" "B" (.int 0) → Fld Z h' a "java/lang/String" "value" "[B" (.ref b) → Arv Z h' b kb .byte (Int32.ofNat cs.length) ((cs.map fun c => c.toInt8.toInt32).map Value.int) (.int 0) → (∀ x ∈ xs, x ≠ a ∧ x ≠ b) → Str Z h' a cs → Go p e below F T' (mkF m n L (.ref a :: r))) : Go p e below F T (mkF m pc L r) := by
  obtain ⟨vm0, k0, locs, X, eT, hS, hk, hn, hZ, ho, hE, hC, hF, hO, hxs, hx, hby, rest⟩ := W
  obtain ⟨d, rfl⟩ := d
  subst hc hs
  have hz := in_of (i := 0) (k := cs.length + 1) rfl (by omega) (by omega)
  have hl : (Int32.ofNat cs.length).toNatClampNeg = ((cs.map fun c => c.toInt8.toInt32).map Value.int).length := by rw [clamp_nat (by omega)]; simp
  obtain ⟨a, T', h', k1, b, kb, X', e', E, hS', hk', hZ', ho', A1, A2, A3, A4, -, -, C1, -, hne, st⟩ := ldcCH X hx hZ ho w wS eT hS hk hE hmem hC.1 ht (by rw [Int32.lt_iff_toInt_lt, LawKit.toInt_of (n := Int32.ofNat cs.length) rfl (by omega)]; show ¬ (cs.length : Int) < 0; omega) hl (g := mkF m pc L r) rfl (hb hby d) hnn hbig hc' hs'
  have hX : ∀ x ∈ xs, n0 ≤ x ∧ x < h'.size ∧ Safe Z EL T'.vm h' x := fun x hm => ⟨(hxs x hm).1, Nat.lt_of_lt_of_le (hxs x hm).2.1 E.1, C1.safe (hxs x hm).2.1 (hxs x hm).2.2⟩
  exact Go.st st (k T' h' a b kb ⟨T'.vm, k1, locs, X', e', hS', hk', fun q => absurd q hnw, hZ', ho', hE, hC.trans C1, hF, hO.ext E, hX, hx, hby, rest⟩ E A1 A2 A3 A4 (fun x hm => hne x (hX x hm).2.2) ⟨A1, A2, ⟨b, kb, A3, A4⟩, hp, hl4⟩)
end Ldc
section Num
theorem toInt_nat {a : Nat} (ha : a < 2 ^ 31) : (Int32.ofNat a).toInt = (a : Int) := LawKit.toInt_of rfl ha
theorem lt_nat {a b : Nat} (ha : a < 2 ^ 31) (hb : b < 2 ^ 31) : Int32.ofNat a < Int32.ofNat b ↔ a < b := by
  rw [Int32.lt_iff_toInt_lt, toInt_nat ha, toInt_nat hb]; omega
theorem eq_nat {a b : Nat} (ha : a < 2 ^ 31) (hb : b < 2 ^ 31) : Int32.ofNat a = Int32.ofNat b ↔ a = b := by
  rw [← Int32.toInt_inj, toInt_nat ha, toInt_nat hb]; omega
theorem eq0_nat {a : Nat} (ha : a < 2 ^ 31) : Int32.ofNat a = 0 ↔ a = 0 := eq_nat (b := 0) ha (by decide)
theorem sub1_nat {a : Nat} (h0 : 0 < a) (ha : a < 2 ^ 31) : Int32.ofNat a - 1 = Int32.ofNat (a - 1) := by
  obtain ⟨b, rfl⟩ : ∃ b, a = b + 1 := ⟨a - 1, by omega⟩
  exact LawKit.dec_ofNat b
theorem add1_nat (a : Nat) : Int32.ofNat a + 1 = Int32.ofNat (a + 1) := (LawKit.inc_ofNat a).symm
/-- a nonnegative int is a number -/
theorem nat_of {x : Int32} (h : ¬ x < 0) : ∃ k : Nat, k < 2 ^ 31 ∧ x = Int32.ofNat k ∧ x.toInt = (k : Int) := by
  rw [Int32.lt_iff_toInt_lt] at h
  have e0 : (0 : Int32).toInt = 0 := rfl
  have hi := Int32.toInt_lt x
  refine ⟨x.toInt.toNat, by omega, ?_, by omega⟩
  rw [← Int32.toInt_inj, toInt_nat (by omega)]; omega
theorem and_nat (x m : Int32) {k : Nat} (hm : m = Int32.ofNat k) (hk : k < 2 ^ 31) : ∃ j : Nat, j ≤ k ∧ x &&& m = Int32.ofNat j := by
  subst hm
  refine ⟨(x &&& Int32.ofNat k).toBitVec.toNat, ?_, ?_⟩
  · simp only [Int32.toBitVec_and, BitVec.toNat_and]
    have : (Int32.ofNat k).toBitVec.toNat = k := by show (BitVec.ofNat 32 k).toNat = k; rw [BitVec.toNat_ofNat]; omega
    rw [this]; exact Nat.and_le_right
  · apply Int32.toBitVec_inj.mp
    show _ = BitVec.ofNat 32 _
    rw [BitVec.ofNat_toNat]; simp
theorem rem_nat {x : Int32} {q j : Nat} (hx : x = Int32.ofNat j) (hj : j < 2 ^ 31) (hq : q < 2 ^ 31) (h0 : 0 < q) : x % Int32.ofNat q = Int32.ofNat (j % q) := by
  subst hx
  have := Nat.mod_lt j h0
  rw [← Int32.toInt_inj, Int32.toInt_mod, toInt_nat hj, toInt_nat hq, toInt_nat (by omega), Int.tmod_eq_emod_of_nonneg (by omega)]
  omega
/-- (x & 0x7fffffff) % q -/
theorem mask_rem (x : Int32) {q : Nat} {y : Int32} (hy : y = Int32.ofNat q) (hq : q < 2 ^ 31) (h0 : 0 < q) : ∃ k : Nat, k < q ∧ (x &&& (2147483647 : Int32)) % y = Int32.ofNat k := by
  subst hy
  obtain ⟨j, hj, e⟩ := and_nat x (2147483647 : Int32) (k := 2147483647) rfl (by decide)
  exact ⟨j % q, Nat.mod_lt _ h0, rem_nat e (by omega) hq h0⟩
theorem not_lt_iff {x y : Int32} : ¬ x < y ↔ y ≤ x := Int32.not_lt
end Num
section Addrs
theorem ne_new {x y : Addr} {h : Heap} (l : x < h.size) (g : y = h.size) : x ≠ y := fun e => by subst e; rw [g] at l; exact Nat.lt_irrefl _ l
theorem nin1 {x y : Addr} {h : Heap} (l : x < h.size) (g : y = h.size) : x ∉ [y] := fun q => ne_new l g (List.mem_singleton.mp q)
theorem all1 {P : Addr → Prop} {y : Addr} (q : P y) : ∀ x ∈ [y], P x := fun x z => (List.mem_singleton.mp z) ▸ q
end Addrs
section Chars
theorem ch_cases {x : Int32} (h : ¬ x < 0 ∧ ¬ (255 : Int32) < x) : ∃ k : Nat, k < 256 ∧ x = Int32.ofNat k := by
  obtain ⟨k, hk, e, ei⟩ := nat_of h.1
  refine ⟨k, ?_, e⟩
  have h2 := h.2
  rw [Int32.lt_iff_toInt_lt, ei] at h2
  have : (255 : Int32).toInt = 255 := rfl
  omega
theorem nar_ch {x : Int32} (h : ¬ x < 0 ∧ ¬ (255 : Int32) < x) : nar .char x = x := by
  obtain ⟨k, hk, rfl⟩ := ch_cases h
  exact (by decide +kernel : ∀ k : Fin 256, nar .char (Int32.ofNat k.val) = Int32.ofNat k.val) ⟨k, hk⟩
theorem narrow_ch {x : Int32} (h : ¬ x < 0 ∧ ¬ (255 : Int32) < x) : narrow .char (.int x) = .int x := by
  show Value.int (nar .char x) = _
  rw [nar_ch h]
theorem i2c_ch {x : Int32} (h : ¬ x < 0 ∧ ¬ (255 : Int32) < x) : x.toUInt32.toUInt16.toUInt32.toInt32 = x := nar_ch h
end Chars
section More
variable {nw : Prop} {EL : List (String × Nat)} {n0 : Nat} {Z : State} {a0 : Array Value} {own nm : String} {cd : ByteArray} {ml : Nat} {ret : Option FieldType} {p : Program} {l : Launch} {e : Env} {R : Room} {s : State} {m : MethodId} {args : Array Value} {below : List Frame} {meth : Method} {c : Code} {T : State} {h : Heap} {xs : List Addr} {cells slots : Nat}
variable {F : State → Prop} {pc n : Nat} {L : Array Slot} {r : List Value}
/-- checkcast of an object of the class -/
theorem Go.cast (W : Wk nw EL n0 Z a0 own nm cd ml ret p l e R s m args below meth c T h xs cells slots) {K : String} {ix : Nat} {a : Addr} (d : Dec cd pc (.checkcast ix) 3 n) (w : (Cond.classLink own ix K).before a0 Z = true) (I : Ins Z h a K true)
    (k : ∀ T', Wk nw EL n0 Z a0 own nm cd ml ret p l e R s m args below meth c T' h xs cells slots → Go p e below F T' (mkF m n L (.ref a :: r))) : Go p e below F T (mkF m pc L (.ref a :: r)) := by
  obtain ⟨vm0, k0, locs, X, eT, hS, hk, hn, hZ, ho, hE, hC, hF, hO, hxs, hx, hby, rest⟩ := W
  obtain ⟨d, rfl⟩ := d
  obtain ⟨T', X', e', st⟩ := castY X hx hZ ho w eT I (g := mkF m pc L (.ref a :: r)) rfl rfl (hb hby d)
  exact Go.st st (k T' ⟨vm0, k0, locs, X', e', hS, hk, hn, hZ, ho, hE, hC, hF, hO, hxs, hx, hby, rest⟩)
/-- instanceof: yes -/
theorem Go.instY (W : Wk nw EL n0 Z a0 own nm cd ml ret p l e R s m args below meth c T h xs cells slots) {K : String} {ix : Nat} {a : Addr} (d : Dec cd pc (.instanceof ix) 3 n) (w : (Cond.classLink own ix K).before a0 Z = true) (I : Ins Z h a K true)
    (k : ∀ T', Wk nw EL n0 Z a0 own nm cd ml ret p l e R s m args below meth c T' h xs cells slots → Go p e below F T' (mkF m n L (.int 1 :: r))) : Go p e below F T (mkF m pc L (.ref a :: r)) := by
  obtain ⟨vm0, k0, locs, X, eT, hS, hk, hn, hZ, ho, hE, hC, hF, hO, hxs, hx, hby, rest⟩ := W
  obtain ⟨d, rfl⟩ := d
  obtain ⟨T', X', e', st⟩ := RoadKit.instY X hx hZ ho w eT I (g := mkF m pc L (.ref a :: r)) rfl rfl (hb hby d)
  exact Go.st st (k T' ⟨vm0, k0, locs, X', e', hS, hk, hn, hZ, ho, hE, hC, hF, hO, hxs, hx, hby, rest⟩)
/-- if_acmpne of two references -/
theorem Go.acne (C : Cx p below m c cd T) {x y : Value} {o : Int} {q : Nat} (d : Dec cd pc (.if_acmp .ne o) 3 n) (hx : x.isRef = true) (hy : y.isRef = true) (ho : 0 ≤ (pc : Int) + o) (hp : ((pc : Int) + o).toNat = q)
    (k1 : ¬ x = y → Go p e below F T (mkF m q L r)) (k2 : x = y → Go p e below F T (mkF m n L r)) : Go p e below F T (mkF m pc L (y :: x :: r)) := by
  obtain ⟨d, rfl⟩ := d
  by_cases hc : x = y
  · obtain ⟨t, st, f⟩ := k2 hc; exact ⟨t, XT.acmpNo C.1 C.2.1 rfl (hb C.2.2 d) rfl hx hy (by simp [XT.acmp, hc]) st, f⟩
  · obtain ⟨t, st, f⟩ := k1 hc; exact ⟨t, XT.acmpYes C.1 C.2.1 rfl (pc0 := pc) rfl (hb C.2.2 d) rfl hx hy (by simp [XT.acmp, hc]) ho hp st, f⟩
theorem Go.aceq (C : Cx p below m c cd T) {x y : Value} {o : Int} {q : Nat} (d : Dec cd pc (.if_acmp .eq o) 3 n) (hx : x.isRef = true) (hy : y.isRef = true) (ho : 0 ≤ (pc : Int) + o) (hp : ((pc : Int) + o).toNat = q)
    (k1 : x = y → Go p e below F T (mkF m q L r)) (k2 : ¬ x = y → Go p e below F T (mkF m n L r)) : Go p e below F T (mkF m pc L (y :: x :: r)) := by
  obtain ⟨d, rfl⟩ := d
  by_cases hc : x = y
  · obtain ⟨t, st, f⟩ := k1 hc; exact ⟨t, XT.acmpYes C.1 C.2.1 rfl (pc0 := pc) rfl (hb C.2.2 d) rfl hx hy (by simp [XT.acmp, hc]) ho hp st, f⟩
  · obtain ⟨t, st, f⟩ := k2 hc; exact ⟨t, XT.acmpNo C.1 C.2.1 rfl (hb C.2.2 d) rfl hx hy (by simp [XT.acmp, hc]) st, f⟩
/-- an enum constant: the static, its class, its ordinal -/
theorem ord_of {C f d K : String} {k : Int32} (hx : (Cond.exactly (Term.static C f d) K).value args Z none Z [] = some true) (ho : (Cond.eq (Term.field (Term.static C f d) "java/lang/Enum" "ordinal" "I") (Term.int k)).value args Z none Z [] = some true)
    (h1 : (Cond.initialized C).before args Z = true) (h2 : (Cond.laysStatic C f d).before args Z = true) : ∃ a, Sta Z Z.heap C f d (.ref a) ∧ Exa Z Z.heap a K ∧ Fld Z Z.heap a "java/lang/Enum" "ordinal" "I" (.int k) := by
  obtain ⟨a, ea⟩ := exa_v hx
  obtain ⟨x, y, hx1, hy1, -⟩ := cmp_v (Or.inl ho)
  have hy2 : (Term.int k).eval args Z none [] Z = some (.int k) := rfl
  rw [hy2] at hy1; cases hy1
  have q : Z.fieldOf? a "java/lang/Enum" "ordinal" "I" = some x := (fld_at ea).symm.trans hx1
  have : x = .int k := by
    cases x with
    | int i => rw [gotT (Cond.eq_ints hx1 hy2) ho]
    | _ => simp [Cond.value, hx1, hy2] at ho
  subst this
  exact ⟨a, Sta.start ea (Or.inr ⟨h1, h2⟩), Exa.start ea hx, Fld.start q⟩
theorem ref_cat {v : Value} (h : v = .null ∨ ∃ a, v = .ref a) : v.isRef = true ∧ v.category = 1 := by rcases h with rfl | ⟨a, rfl⟩ <;> exact ⟨rfl, rfl⟩
end More
section Inst
variable {nw : Prop} {EL : List (String × Nat)} {n0 : Nat} {Z : State} {a0 : Array Value} {own nm : String} {cd : ByteArray} {ml : Nat} {ret : Option FieldType} {p : Program} {l : Launch} {e : Env} {R : Room} {s : State} {m : MethodId} {args : Array Value} {below : List Frame} {meth : Method} {c : Code} {T : State} {h : Heap} {xs : List Addr} {cells slots : Nat}
variable {F : State → Prop} {pc n : Nat} {L : Array Slot} {r : List Value}
/-- a class right beneath the root is no subclass of another one -/
theorem no_sub {C O K : String} {kk : Nat} (w1 : (Cond.superclass C O).before a0 Z = true) (w2 : (Cond.noSuperclass O).before a0 Z = true) (wk : (Cond.instantiable K kk).before a0 Z = true) (h1 : C ≠ K) (h2 : O ≠ K) : ∃ c t, Z.vm.findClass C = some c ∧ Z.vm.findClass K = some t ∧ Z.vm.assignable c t = false := by
  obtain ⟨o, ko, o1, o2, o3, -, -⟩ := Cond.noSuperclass_spec w2
  obtain ⟨c, c0⟩ := found_sup w1
  obtain ⟨p, k, kp, p1, p2, p3, p4, p5, -, p7⟩ := Cond.superclass_spec c0 w1
  cases o1.symm.trans p1
  obtain ⟨t, kt, t1, t2, t3, t4, -⟩ := Cond.instantiable_spec wk
  have n1 := ids_ne c0 t1 h1
  have n2 := ids_ne o1 t1 h2
  have t5 : kt.isInterface = false := by cases q : kt.isInterface <;> simp_all
  have sub : ∀ fuel, Z.vm.isSubclassAux fuel c t = false := fun fuel => by
    rcases fuel with _ | _ | f
    · rfl
    · simp [Vm.isSubclassAux, n1, p2, p4]
    · simp [Vm.isSubclassAux, n1, n2, p2, p4, o2, o3]
  refine ⟨c, t, c0, t1, ?_⟩
  show Z.vm.assignableAux (255 + 1) c t = false
  simp [Vm.assignableAux, n1, p2, t2, p5, t3, t5, Vm.isSubclass, sub]
theorem Go.instN (W : Wk nw EL n0 Z a0 own nm cd ml ret p l e R s m args below meth c T h xs cells slots) {K C : String} {ix : Nat} {a : Addr} (d : Dec cd pc (.instanceof ix) 3 n) (w : (Cond.classLink own ix K).before a0 Z = true) (E : Exa Z h a C) (I : ∃ c t, Z.vm.findClass C = some c ∧ Z.vm.findClass K = some t ∧ Z.vm.assignable c t = false)
    (k : ∀ T', Wk nw EL n0 Z a0 own nm cd ml ret p l e R s m args below meth c T' h xs cells slots → Go p e below F T' (mkF m n L (.int 0 :: r))) : Go p e below F T (mkF m pc L (.ref a :: r)) := by
  obtain ⟨vm0, k0, locs, X, eT, hS, hk, hn, hZ, ho, hE, hC, hF, hO, hxs, hx, hby, rest⟩ := W
  obtain ⟨d, rfl⟩ := d
  obtain ⟨T', X', e', st⟩ := RoadKit.instNo X hx hZ ho w eT E I (g := mkF m pc L (.ref a :: r)) rfl rfl (hb hby d)
  exact Go.st st (k T' ⟨vm0, k0, locs, X', e', hS, hk, hn, hZ, ho, hE, hC, hF, hO, hxs, hx, hby, rest⟩)
theorem Go.inst0 (W : Wk nw EL n0 Z a0 own nm cd ml ret p l e R s m args below meth c T h xs cells slots) {ix : Nat} (d : Dec cd pc (.instanceof ix) 3 n)
    (k : Go p e below F T (mkF m n L (.int 0 :: r))) : Go p e below F T (mkF m pc L (.null :: r)) := by
  obtain ⟨vm0, k0, locs, X, eT, hS, hk, hn, hZ, ho, hE, hC, hF, hO, hxs, hx, hby, rest⟩ := W
  obtain ⟨d, rfl⟩ := d
  exact Go.st (fun t st => X.instanceofNull hx (g := mkF m pc L (.null :: r)) rfl rfl (hb hby d) t st) k
end Inst
section Objs
variable {nw : Prop} {EL : List (String × Nat)} {n0 : Nat} {Z : State} {a0 : Array Value} {own nm : String} {cd : ByteArray} {ml : Nat} {ret : Option FieldType} {p : Program} {l : Launch} {e : Env} {R : Room} {s : State} {m : MethodId} {args : Array Value} {below : List Frame} {meth : Method} {c : Code} {T : State} {h h' : Heap} {xs : List Addr} {cells slots : Nat}
variable {F : State → Prop} {pc n : Nat} {L : Array Slot} {r : List Value}
/-- an empty array of references -/
def OArr (Z : State) (h : Heap) (a : Addr) (C ad : String) : Prop := ∃ cl : Cell, Arr Z h a cl (.object C) ∧ Exa Z h a ad ∧ cl.slots.size = 0
theorem OArr.exa {a : Addr} {C ad : String} (O : OArr Z h a C ad) : Exa Z h a ad := by obtain ⟨_, -, E, -⟩ := O; exact E
theorem OArr.lt {a : Addr} {C ad : String} (O : OArr Z h a C ad) : a < h.size := O.exa.lt
theorem OArr.ext {a : Addr} {C ad : String} (O : OArr Z h a C ad) (E : Ext h h') : OArr Z h' a C ad := by obtain ⟨cl, A, X, S⟩ := O; exact ⟨cl, A.ext E, X.ext E, S⟩
theorem OArr.keep {a : Addr} {C ad : String} {ws : List Addr} (O : OArr Z h a C ad) (K : Keep h h' ws) (q : a ∉ ws) : OArr Z h' a C ad := by obtain ⟨cl, A, X, S⟩ := O; exact ⟨cl, ⟨K.2.1 a cl A.1 q, A.2⟩, X.keep K, S⟩
theorem Go.newobjs0 (W : Wk nw EL n0 Z a0 own nm cd ml ret p l e R s m args below meth c T h xs cells slots) {C ad : String} {ix cells' : Nat} (d : Dec cd pc (.anewarray ix) 3 n) (w1 : (Cond.classLink own ix C).before a0 Z = true) (w2 : (Cond.arrayOver (.object C)).before a0 Z = true)
    (hc : cells + 1 = cells') (hc' : cells' ≤ R.cells) (hs' : slots + 0 ≤ R.slots) (had : "[" ++ (FieldType.object C).toString = ad)
    (k : ∀ T' h' a, a = h.size → Wk nw EL n0 Z a0 own nm cd ml ret p l e R s m args below meth c T' h' (a :: xs) cells' slots → Ext h h' → OArr Z h' a C ad → Go p e below F T' (mkF m n L (.ref a :: r))) : Go p e below F T (mkF m pc L (.int 0 :: r)) := by
  obtain ⟨vm0, k0, locs, X, eT, hS, hk, hn, hZ, ho, hE, hC, hF, hO, hxs, hx, hby, rest⟩ := W
  obtain ⟨d, rfl⟩ := d
  subst hc
  obtain ⟨T', h', cA, X', e', E, A, A2, -, st⟩ := newRE X hx hZ ho w1 w2 eT (g := mkF m pc L (.int 0 :: r)) rfl (hb hby d) rfl (by decide) (cap := 0) (by decide) (by decide) hc' hs' had
  have C1 := CHr.ext E hC.1
  refine Go.st st (k T' h' h.size rfl ⟨vm0, k0, locs, X', e', hS, Nat.le_trans hk E.1, hn, hZ, ho, hE, hC.trans C1, hF, hO.ext E, fun x hm => ?_, hx, hby, rest⟩ E ⟨_, A, A2, by rw [sz_new]; rfl⟩)
  rcases List.mem_cons.mp hm with rfl | hm
  · exact ⟨old_le hO, A.lt, Safe.ext E hC.1 (Safe.new (Nat.le_refl _))⟩
  · exact ⟨(hxs x hm).1, Nat.lt_of_lt_of_le (hxs x hm).2.1 E.1, C1.safe (hxs x hm).2.1 (hxs x hm).2.2⟩
theorem Go.clone0 (W : Wk nw EL n0 Z a0 own nm cd ml ret p l e R s m args below meth c T h xs cells slots) {C ad : String} {ix wt cells' : Nat} {b : Addr} (d : Dec cd pc (.invokevirtual ix) 3 n)
    (w1 : (Cond.methodLink own ix ⟨ad, "clone", "()Ljava/lang/Object;"⟩).before a0 Z = true) (w2 : (Cond.sameMethod ad "java/lang/Object" "clone" "()Ljava/lang/Object;").before a0 Z = true) (w3 : (Cond.native ⟨"java/lang/Object", "clone", "()Ljava/lang/Object;"⟩).before a0 Z = true)
    (w4 : (Cond.instanceMethod ⟨"java/lang/Object", "clone", "()Ljava/lang/Object;"⟩).before a0 Z = true) (w5 : (Cond.selects ad ⟨ad, "clone", "()Ljava/lang/Object;"⟩ ⟨"java/lang/Object", "clone", "()Ljava/lang/Object;"⟩).before a0 Z = true) (w6 : (Cond.castable ad "java/lang/Cloneable").before a0 Z = true)
    (O : OArr Z h b C ad) (hsz : L.size = ml) (hf : 1 ≤ R.frames) (hw : (r.map fun v => v.category).sum ≤ wt) (hl : wt + 14 ≤ R.locals) (hc : cells + 1 = cells') (hc' : cells' ≤ R.cells) (hs' : slots + 0 ≤ R.slots)
    (k : ∀ T' h' a, a = h.size → Wk nw EL n0 Z a0 own nm cd ml ret p l e R s m args below meth c T' h' (a :: xs) cells' slots → Ext h h' → OArr Z h' a C ad → Go p e below F T' (mkF m n L (.ref a :: r))) : Go p e below F T (mkF m pc L (.ref b :: r)) := by
  obtain ⟨vm0, k0, locs, X, eT, hS, hk, hn, hZ, ho, hE, hC, hF, hO, hxs, hx, hby, hml, rest⟩ := W
  obtain ⟨d, rfl⟩ := d
  subst hc
  obtain ⟨cl, A, A2, S⟩ := O
  obtain ⟨T', h', X', e', E, B, B2, st⟩ := cloneA X hx hZ ho w1 w2 w3 w4 w5 w6 eT A A2 (fun i v hv => by have := (Array.getElem?_eq_some_iff.mp hv).1; omega) (g := mkF m pc L (.ref b :: r)) rfl (hsz.trans hml.symm) rfl (hb hby d) hf (W := wt) (cap := 0) (by show 2 * 0 + _ ≤ _; omega) hl (by omega) hc' hs'
  have C1 := CHr.ext E hC.1
  refine Go.st st (k T' h' h.size rfl ⟨vm0, k0, locs, X', e', hS, Nat.le_trans hk E.1, hn, hZ, ho, hE, hC.trans C1, hF, hO.ext E, fun x hm => ?_, hx, hby, hml, rest⟩ E ⟨_, B, B2, by simpa [cloneOf] using S⟩)
  rcases List.mem_cons.mp hm with rfl | hm
  · exact ⟨old_le hO, B.lt, Safe.ext E hC.1 (Safe.new (Nat.le_refl _))⟩
  · exact ⟨(hxs x hm).1, Nat.lt_of_lt_of_le (hxs x hm).2.1 E.1, C1.safe (hxs x hm).2.1 (hxs x hm).2.2⟩
theorem Go.alen0 (W : Wk nw EL n0 Z a0 own nm cd ml ret p l e R s m args below meth c T h xs cells slots) {a : Addr} {C ad : String} (d : Dec cd pc .arraylength 1 n) (O : OArr Z h a C ad)
    (k : Go p e below F T (mkF m n L (.int 0 :: r))) : Go p e below F T (mkF m pc L (.ref a :: r)) := by
  obtain ⟨vm0, k0, locs, X, eT, hS, hk, hn, hZ, ho, hE, hC, hF, hO, hxs, hx, hby, rest⟩ := W
  obtain ⟨d, rfl⟩ := d
  obtain ⟨cl, A, A2, S⟩ := O
  exact Go.st (fun t st => X.arraylength hx (by rw [eT]; exact A.1) (State.isArrayOf_alike hZ.alike A.2.1) (g := mkF m pc L (.ref a :: r)) rfl rfl (hb hby d) t (by rw [S]; exact st)) k
end Objs
end Jvm.OwK
/- laws to paste: Road.backV (cut by pick.py; bodies as the Statement names them) -/
namespace Jvm.Pilot.@@N@@
namespace StrChars
open Jvm Sem ClassFile Op Lib Jvm.Stand Jvm.Free.XT Jvm.Free.ALB Jvm.Free.JM Jvm.Free
open Jvm.Lib.Cold (StaticIs)
/-- a char array whose places are chars -/
def Ch (a : Addr) (A : Cell) (U : State) : Prop := Arr .char a A U ∧ Typed .char A
theorem Ch.mv {a : Addr} {A : Cell} {U U' : State} (h : Ch a A U) (hal : U.vm.Alike U'.vm) (hh : U'.heap = U.heap) : Ch a A U' := ⟨h.1.mv hal hh, h.2⟩
theorem Ch.keep {a : Addr} {A : Cell} {U U' : State} (h : Ch a A U) (hal : U.vm.Alike U'.vm) (hk : U'.heap[a]? = some A) : Ch a A U' := ⟨h.1.keep hal hk, h.2⟩
/-- what place i of a char[]'s cell holds -/
def cv (A : Cell) (i : Nat) : Int32 := match A.slots[i]? with | some (.int x) => x | _ => 0
theorem Ch.get {a : Addr} {A : Cell} {U : State} (h : Ch a A U) {i : Nat} (hi : i < A.slots.size) : A.slots[i]? = some (.int (cv A i)) := by
  have e := Array.getElem?_eq_getElem hi
  have f := h.2 i _ e
  unfold cv; rw [e]
  generalize A.slots[i] = v at f
  cases v <;> simp [fits] at f ⊢
/-- the byte that i2b leaves of a char -/
def lo8 (x : Int32) : Int32 := x.toInt8.toInt32
theorem fits_lo8 (y : Int32) : fits .byte (.int (lo8 y)) = true := by
  have h1 := y.toInt8.le_toInt
  have h2 := y.toInt8.toInt_lt
  simp only [lo8, fits, Bool.and_eq_true, decide_eq_true_eq, Int32.le_iff_toInt_le, Int8.toInt_toInt32, show (-128 : Int32).toInt = -128 from by decide, show (127 : Int32).toInt = 127 from by decide]
  omega
/-- A' is A but that each place j of lo .. hi - 1 holds f j -/
def Laid (A A' : Cell) (lo hi : Nat) (f : Nat → Value) : Prop := A'.cls = A.cls ∧ A'.vm = A.vm ∧ A'.slots.size = A.slots.size ∧ ∀ i, A'.slots[i]? = if lo ≤ i ∧ i < hi then some (f i) else A.slots[i]?
theorem Laid.zero (A : Cell) (lo : Nat) (f : Nat → Value) : Laid A A lo (lo + 0) f := ⟨rfl, rfl, rfl, fun i => by rw [if_neg (by omega)]⟩
theorem Laid.step {A Ak : Cell} {lo k : Nat} {f : Nat → Value} {v : Value} (h : Laid A Ak lo k f) (hlo : lo ≤ k) (hk : k < Ak.slots.size) (hv : v = f k) : Laid A (Ak.setSlot k v) lo (k + 1) f := by
  refine ⟨h.1, h.2.1, by simpa [Cell.setSlot] using h.2.2.1, fun i => ?_⟩
  by_cases e : k = i
  · subst e; rw [Cell.slots_setSlot_self v hk, if_pos (by omega), hv]
  · rw [Cell.slots_setSlot_ne v e, h.2.2.2 i]
    by_cases q : lo ≤ i ∧ i < k
    · rw [if_pos q, if_pos (by omega)]
    · rw [if_neg q, if_neg (by omega)]
def U16 : String := "java/lang/StringUTF16"
namespace Cmp5
def yN : MethodName := ⟨"java/lang/StringUTF16", "compress", "([CI[BII)I"⟩
abbrev yB : ByteArray := jdk_52_method_21_code
theorem d0 : decode yB 0 = .ok (.iconst 0, 1) := by decide +kernel
theorem d1 : decode yB 1 = .ok (.istore 5, 2) := by decide +kernel
theorem d3 : decode yB 3 = .ok (.iload 5, 2) := by decide +kernel
theorem d5 : decode yB 5 = .ok (.iload 4, 2) := by decide +kernel
theorem d7 : decode yB 7 = .ok (.if_icmp (.ge) 37, 3) := by decide +kernel
theorem d10 : decode yB 10 = .ok (.aload_n 0, 1) := by decide +kernel
theorem d11 : decode yB 11 = .ok (.iload_n 1, 1) := by decide +kernel
theorem d12 : decode yB 12 = .ok (.caload, 1) := by decide +kernel
theorem d13 : decode yB 13 = .ok (.istore 6, 2) := by decide +kernel
theorem d15 : decode yB 15 = .ok (.iload 6, 2) := by decide +kernel
theorem d17 : decode yB 17 = .ok (.sipush 255, 3) := by decide +kernel
theorem d20 : decode yB 20 = .ok (.if_icmp (.le) 6, 3) := by decide +kernel
theorem d26 : decode yB 26 = .ok (.aload_n 2, 1) := by decide +kernel
theorem d27 : decode yB 27 = .ok (.iload_n 3, 1) := by decide +kernel
theorem d28 : decode yB 28 = .ok (.iload 6, 2) := by decide +kernel
theorem d30 : decode yB 30 = .ok (.i2b, 1) := by decide +kernel
theorem d31 : decode yB 31 = .ok (.bastore, 1) := by decide +kernel
theorem d32 : decode yB 32 = .ok (.iinc 1 1, 3) := by decide +kernel
theorem d35 : decode yB 35 = .ok (.iinc 3 1, 3) := by decide +kernel
theorem d38 : decode yB 38 = .ok (.iinc 5 1, 3) := by decide +kernel
theorem d41 : decode yB 41 = .ok (.goto (-38), 3) := by decide +kernel
theorem d44 : decode yB 44 = .ok (.iload 4, 2) := by decide +kernel
theorem d46 : decode yB 46 = .ok (.ireturn, 1) := by decide +kernel
def site : List Cond := []
def tab : Cond := tabOf yN yB 7 (some .int) site
def P (b : Addr) (A : Cell) (d : Addr) (B : Cell) (o q len : Nat) (args : Array Value) (s : State) : Prop := args = #[.ref b, .int (Int32.ofNat o), .ref d, .int (Int32.ofNat q), .int (Int32.ofNat len)] ∧ Ch b A s ∧ Arr .byte d B s ∧ b ≠ d ∧ o + len ≤ A.slots.size ∧ q + len ≤ B.slots.size ∧ ∀ i, i < len → ¬ 255 < cv A (o + i)
def E (b : Addr) (A : Cell) (d : Addr) (B : Cell) (o q len : Nat) (r : Option Value) (s u : State) : Prop := r = some (.int (Int32.ofNat len)) ∧ ∃ B', Put d B' s u ∧ Laid B B' q (q + len) (fun j => Value.int (lo8 (cv A (o + (j - q)))))
/-- no char of the range above 255: len; the places written hold each char's low byte -/
theorem law (l : Launch) (b : Addr) (A : Cell) (d : Addr) (B : Cell) (o q len : Nat) : Law l yN 5 5 0 0 yB 7 (some .int) site (P b A d B o q len) (E b A d B o q len) (copyLocs d q len) 0 0 := by
  refine Law.of_walk (plainFor_of_name (by decide +kernel)) (by decide +kernel) (by decide +kernel) (by decide) (fun _ _ h => by rw [h.1]; rfl) (fun _ U U' hal hh h => ⟨h.1, h.2.1.mv hal hh, h.2.2.1.mv hal hh, h.2.2.2⟩) (fun r U U' V V' h1 hal h2 h => ⟨h.1, h.2.elim fun B' q => ⟨B', q.1.mv h1 h2, q.2⟩⟩) ?_
  intro p e s m args below meth c s₁ X0 hexec hbytes hml hret hlk hnm hown hh0 W hP
  obtain ⟨rfl, hA, hB, hne, l1, l2, hp⟩ := hP
  have c1 : Steps p.tables e below (s₁.setTop (entryFrame m #[.ref b, .int (Int32.ofNat o), .ref d, .int (Int32.ofNat q), .int (Int32.ofNat len)] 7)) (s₁.setTop (mkF m 0 #[.val (.ref b), .val (.int (Int32.ofNat o)), .val (.ref d), .val (.int (Int32.ofNat q)), .val (.int (Int32.ofNat len)), .unset, .unset] [])) := entry rfl
  have hA0 := hA.1.mv X0.warmed.alike hh0
  have hB0 := hB.mv X0.warmed.alike hh0
  have a31 := hA.1.2.2.2
  have c2 : Steps p.tables e below (s₁.setTop (entryFrame m #[.ref b, .int (Int32.ofNat o), .ref d, .int (Int32.ofNat q), .int (Int32.ofNat len)] 7)) (s₁.setTop (mkF m 3 #[.val (.ref b), .val (.int (Int32.ofNat o)), .val (.ref d), .val (.int (Int32.ofNat q)), .val (.int (Int32.ofNat len)), .val (.int 0), .unset] [])) := c1.trans (by
    refine iconstV X0.here hexec rfl 0 (hb hbytes d0) (by decide) ?_
    refine XS.istore X0.here hexec rfl (hb hbytes d1) rfl rfl ?_
    exact Steps.refl _)
  have loop : ∀ (r i : Nat), i + r = len → ∀ (z : Slot), (z = .unset ∨ ∃ w, z = .val w ∧ w.category = 1) → ∀ (Tl : State) (Bk : Cell), Stand p l e { frames := 0, locals := 0, cells := 0, slots := 0 } s m #[.ref b, .int (Int32.ofNat o), .ref d, .int (Int32.ofNat q), .int (Int32.ofNat len)] below meth c Tl ([] ++ copyLocs d q i) 0 0 → Put d Bk s₁ Tl → Laid B Bk q (q + i) (fun j => Value.int (lo8 (cv A (o + (j - q))))) →
      Steps p.tables e below (s₁.setTop (entryFrame m #[.ref b, .int (Int32.ofNat o), .ref d, .int (Int32.ofNat q), .int (Int32.ofNat len)] 7)) (Tl.setTop (mkF m 3 #[.val (.ref b), .val (.int (Int32.ofNat (o + i))), .val (.ref d), .val (.int (Int32.ofNat (q + i))), .val (.int (Int32.ofNat len)), .val (.int (Int32.ofNat i)), z] [])) → ∃ (T' : State) (B' : Cell) (z' : Slot), Stand p l e { frames := 0, locals := 0, cells := 0, slots := 0 } s m #[.ref b, .int (Int32.ofNat o), .ref d, .int (Int32.ofNat q), .int (Int32.ofNat len)] below meth c T' ([] ++ copyLocs d q len) 0 0 ∧ Put d B' s₁ T' ∧ Laid B B' q (q + len) (fun j => Value.int (lo8 (cv A (o + (j - q))))) ∧
      Steps p.tables e below (s₁.setTop (entryFrame m #[.ref b, .int (Int32.ofNat o), .ref d, .int (Int32.ofNat q), .int (Int32.ofNat len)] 7)) (T'.setTop (mkF m 3 #[.val (.ref b), .val (.int (Int32.ofNat (o + len))), .val (.ref d), .val (.int (Int32.ofNat (q + len))), .val (.int (Int32.ofNat len)), .val (.int (Int32.ofNat len)), z'] [])) := by
    intro r
    induction r with
    | zero =>
      intro i hi z hz Tl Bk Xl pl fl cl
      have hil : i = len := by omega
      rw [hil] at Xl fl cl
      exact ⟨Tl, Bk, z, Xl, pl, fl, cl⟩
    | succ r ih =>
      intro i hi z hz Tl Bk Xl pl fl cl
      have all := X0.warmed.alike.symm.trans Xl.warmed.alike
      have hAl := hA0.keep all (pl.other hne hA0.1)
      have hBk := hB0.like all pl.1 fl.1 fl.2.1 fl.2.2.1
      have hlt : q + i < Bk.slots.size := by rw [fl.2.2.1]; omega
      have c3 : Steps p.tables e below (s₁.setTop (entryFrame m #[.ref b, .int (Int32.ofNat o), .ref d, .int (Int32.ofNat q), .int (Int32.ofNat len)] 7)) (Tl.setTop (mkF m 12 #[.val (.ref b), .val (.int (Int32.ofNat (o + i))), .val (.ref d), .val (.int (Int32.ofNat (q + i))), .val (.int (Int32.ofNat len)), .val (.int (Int32.ofNat i)), z] [.int (Int32.ofNat (o + i)), .ref b])) := cl.trans (by
        refine XS.iload Xl.here hexec rfl (hb hbytes d3) rfl ?_
        refine XS.iload Xl.here hexec rfl (hb hbytes d5) rfl ?_
        refine XS.icmpNo Xl.here hexec rfl (hb hbytes d7) rfl (ii_ge_f (lt32 (by omega) (by omega))) ?_
        refine XS.aloadN Xl.here hexec rfl (hb hbytes d10) rfl rfl ?_
        refine XS.iloadN Xl.here hexec rfl (hb hbytes d11) rfl ?_
        exact Steps.refl _)
      have c4 : Steps p.tables e below (s₁.setTop (entryFrame m #[.ref b, .int (Int32.ofNat o), .ref d, .int (Int32.ofNat q), .int (Int32.ofNat len)] 7)) (Tl.setTop (mkF m 13 #[.val (.ref b), .val (.int (Int32.ofNat (o + i))), .val (.ref d), .val (.int (Int32.ofNat (q + i))), .val (.int (Int32.ofNat len)), .val (.int (Int32.ofNat i)), z] [.int (cv A (o + i))])) := c3.trans (by
        refine Xl.aget hexec hAl rfl (hA.get (i := o + i) (by omega)) rfl rfl (hb hbytes d12) ?_
        exact Steps.refl _)
      have c5 : Steps p.tables e below (s₁.setTop (entryFrame m #[.ref b, .int (Int32.ofNat o), .ref d, .int (Int32.ofNat q), .int (Int32.ofNat len)] 7)) (Tl.setTop (mkF m 15 #[.val (.ref b), .val (.int (Int32.ofNat (o + i))), .val (.ref d), .val (.int (Int32.ofNat (q + i))), .val (.int (Int32.ofNat len)), .val (.int (Int32.ofNat i)), .val (.int (cv A (o + i)))] [])) := c4.trans (by
        refine XS.istoreS Xl.here hexec rfl (hb hbytes d13) rfl rfl hz ?_
        exact Steps.refl _)
      have c6 : Steps p.tables e below (s₁.setTop (entryFrame m #[.ref b, .int (Int32.ofNat o), .ref d, .int (Int32.ofNat q), .int (Int32.ofNat len)] 7)) (Tl.setTop (mkF m 31 #[.val (.ref b), .val (.int (Int32.ofNat (o + i))), .val (.ref d), .val (.int (Int32.ofNat (q + i))), .val (.int (Int32.ofNat len)), .val (.int (Int32.ofNat i)), .val (.int (cv A (o + i)))] [.int (lo8 (cv A (o + i))), .int (Int32.ofNat (q + i)), .ref d])) := c5.trans (by
        refine XS.iload Xl.here hexec rfl (hb hbytes d15) rfl ?_
        refine sipushV Xl.here hexec rfl 255 (hb hbytes d17) (by decide) ?_
        refine XS.icmpYes Xl.here hexec rfl (pc0 := 20) rfl (hb hbytes d20) rfl (ii_le_t (hp i (by omega))) (by decide) rfl ?_
        refine XS.aloadN Xl.here hexec rfl (hb hbytes d26) rfl rfl ?_
        refine XS.iloadN Xl.here hexec rfl (hb hbytes d27) rfl ?_
        refine XS.iload Xl.here hexec rfl (hb hbytes d28) rfl ?_
        refine i2b Xl.here hexec rfl (hb hbytes d30) rfl ?_
        exact Steps.refl _)
      obtain ⟨T7, X7, p7, st7⟩ := Xl.aput hexec hBk rfl hlt rfl (fits_lo8 (cv A (o + i))) (g := (mkF m 31 #[.val (.ref b), .val (.int (Int32.ofNat (o + i))), .val (.ref d), .val (.int (Int32.ofNat (q + i))), .val (.int (Int32.ofNat len)), .val (.int (Int32.ofNat i)), .val (.int (cv A (o + i)))] [.int (lo8 (cv A (o + i))), .int (Int32.ofNat (q + i)), .ref d])) rfl (rest := []) rfl (hb hbytes d31)
      have c8 : Steps p.tables e below (s₁.setTop (entryFrame m #[.ref b, .int (Int32.ofNat o), .ref d, .int (Int32.ofNat q), .int (Int32.ofNat len)] 7)) (T7.setTop (mkF m 32 #[.val (.ref b), .val (.int (Int32.ofNat (o + i))), .val (.ref d), .val (.int (Int32.ofNat (q + i))), .val (.int (Int32.ofNat len)), .val (.int (Int32.ofNat i)), .val (.int (cv A (o + i)))] [])) := c6.trans (st7 _ (Steps.refl _))
      have c9 : Steps p.tables e below (s₁.setTop (entryFrame m #[.ref b, .int (Int32.ofNat o), .ref d, .int (Int32.ofNat q), .int (Int32.ofNat len)] 7)) (T7.setTop (mkF m 3 #[.val (.ref b), .val (.int (Int32.ofNat (o + i) + 1)), .val (.ref d), .val (.int (Int32.ofNat (q + i) + 1)), .val (.int (Int32.ofNat len)), .val (.int (Int32.ofNat i + 1)), .val (.int (cv A (o + i)))] [])) := c8.trans (by
        refine iincV X7.here hexec rfl 1 (hb hbytes d32) (by decide) rfl rfl ?_
        refine iincV X7.here hexec rfl 1 (hb hbytes d35) (by decide) rfl rfl ?_
        refine iincV X7.here hexec rfl 1 (hb hbytes d38) (by decide) rfl rfl ?_
        refine XS.goto X7.here hexec rfl (pc0 := 41) rfl (hb hbytes d41) (by decide) rfl ?_
        exact Steps.refl _)
      have c10 : Steps p.tables e below (s₁.setTop (entryFrame m #[.ref b, .int (Int32.ofNat o), .ref d, .int (Int32.ofNat q), .int (Int32.ofNat len)] 7)) (T7.setTop (mkF m 3 #[.val (.ref b), .val (.int (Int32.ofNat (o + (i + 1)))), .val (.ref d), .val (.int (Int32.ofNat (q + (i + 1)))), .val (.int (Int32.ofNat len)), .val (.int (Int32.ofNat (i + 1))), .val (.int (cv A (o + i)))] [])) := by
        have := c9
        rw [succ32, succ32, succ32] at this
        exact this
      exact ih (i + 1) (by omega) _ (Or.inr ⟨_, rfl, rfl⟩) T7 _ (by rw [copyLocs_step, ← List.append_assoc]; exact X7) (pl.trans p7) (fl.step (by omega) hlt (by simp)) c10
  obtain ⟨T9, B9, z9, X9, p9, f9, g9⟩ := loop len 0 (by omega) .unset (Or.inl rfl) s₁ B (by simpa [copyLocs] using X0) ⟨hB0.1, fun _ _ => rfl, rfl⟩ (Laid.zero _ _ _) c2
  have c11 : Steps p.tables e below (s₁.setTop (entryFrame m #[.ref b, .int (Int32.ofNat o), .ref d, .int (Int32.ofNat q), .int (Int32.ofNat len)] 7)) (T9.setTop (mkF m 46 #[.val (.ref b), .val (.int (Int32.ofNat (o + len))), .val (.ref d), .val (.int (Int32.ofNat (q + len))), .val (.int (Int32.ofNat len)), .val (.int (Int32.ofNat len)), z9] [.int (Int32.ofNat len)])) := g9.trans (by
    refine XS.iload X9.here hexec rfl (hb hbytes d3) rfl ?_
    refine XS.iload X9.here hexec rfl (hb hbytes d5) rfl ?_
    refine XS.icmpYes X9.here hexec rfl (pc0 := 7) rfl (hb hbytes d7) rfl (ii_ge_t (nlt32 (by omega) (Nat.le_refl _))) (by decide) rfl ?_
    refine XS.iload X9.here hexec rfl (hb hbytes d44) rfl ?_
    exact Steps.refl _)
  exact ⟨T9, some (.int (Int32.ofNat len)), _, _, _, X9, by simp, rfl, rfl, (fun h => by cases h), ⟨rfl, B9, p9.from hh0, f9⟩, fun fs hl => c11.trans (X9.ireturnOut hexec hret rfl (Or.inl rfl) (hb hbytes d46) hl)⟩
end Cmp5
namespace Cmp3
def yN : MethodName := ⟨"java/lang/StringUTF16", "compress", "([CII)[B"⟩
abbrev yB : ByteArray := jdk_52_method_16_code
theorem d0 : decode yB 0 = .ok (.iload_n 2, 1) := by decide +kernel
theorem d1 : decode yB 1 = .ok (.newarray .byte, 2) := by decide +kernel
theorem d3 : decode yB 3 = .ok (.astore_n 3, 1) := by decide +kernel
theorem d4 : decode yB 4 = .ok (.aload_n 0, 1) := by decide +kernel
theorem d5 : decode yB 5 = .ok (.iload_n 1, 1) := by decide +kernel
theorem d6 : decode yB 6 = .ok (.aload_n 3, 1) := by decide +kernel
theorem d7 : decode yB 7 = .ok (.iconst 0, 1) := by decide +kernel
theorem d8 : decode yB 8 = .ok (.iload_n 2, 1) := by decide +kernel
theorem d9 : decode yB 9 = .ok (.invokestatic 115, 3) := by decide +kernel
theorem d12 : decode yB 12 = .ok (.istore 4, 2) := by decide +kernel
theorem d14 : decode yB 14 = .ok (.iload 4, 2) := by decide +kernel
theorem d16 : decode yB 16 = .ok (.iload_n 2, 1) := by decide +kernel
theorem d17 : decode yB 17 = .ok (.if_icmp (.eq) 40, 3) := by decide +kernel
theorem d57 : decode yB 57 = .ok (.aload_n 3, 1) := by decide +kernel
theorem d58 : decode yB 58 = .ok (.areturn, 1) := by decide +kernel
def site : List Cond := [.arrayClass .byte, Cmp5.tab] ++ staticW U16 115 Cmp5.yN
def tab : Cond := tabOf yN yB 6 (some (.array .byte)) site
def P (b : Addr) (A : Cell) (o len : Nat) (args : Array Value) (s : State) : Prop := args = #[.ref b, .int (Int32.ofNat o), .int (Int32.ofNat len)] ∧ Ch b A s ∧ o + len ≤ A.slots.size ∧ len ≤ 536870912 ∧ ∀ i, i < len → ¬ 255 < cv A (o + i)
def E (b : Addr) (A : Cell) (o len : Nat) (r : Option Value) (s u : State) : Prop := NewArr .byte "[B" len (fun j => .int (lo8 (cv A (o + j)))) r s u ∧ u.heap.size = s.heap.size + 1
/-- no char of the range above 255: a new byte[] of their low bytes -/
theorem law (l : Launch) (b : Addr) (A : Cell) (o len : Nat) : Law l yN 3 3 1 18 yB 6 (some (.array .byte)) site (P b A o len) (E b A o len) [] 1 len := by
  refine Law.of_walk (plainFor_of_name (by decide +kernel)) (by decide +kernel) (by decide +kernel) (by decide) (fun _ _ h => by rw [h.1]; rfl) (fun _ U U' hal hh h => ⟨h.1, h.2.1.mv hal hh, h.2.2⟩) (fun r U U' V V' h1 hal h2 h => ⟨NewArr.mv r U U' V V' h1 hal h2 h.1, by rw [h1, h2]; exact h.2⟩) ?_
  intro p e s m args below meth c s₁ X0 hexec hbytes hml hret hlk hnm hown hh0 W hP
  obtain ⟨rfl, hA, l1, l2, hp⟩ := hP
  have a31 := hA.1.2.2.2
  have c1 : Steps p.tables e below (s₁.setTop (entryFrame m #[.ref b, .int (Int32.ofNat o), .int (Int32.ofNat len)] 6)) (s₁.setTop (mkF m 0 #[.val (.ref b), .val (.int (Int32.ofNat o)), .val (.int (Int32.ofNat len)), .unset, .unset, .unset] [])) := entry rfl
  have c2 : Steps p.tables e below (s₁.setTop (entryFrame m #[.ref b, .int (Int32.ofNat o), .int (Int32.ofNat len)] 6)) (s₁.setTop (mkF m 1 #[.val (.ref b), .val (.int (Int32.ofNat o)), .val (.int (Int32.ofNat len)), .unset, .unset, .unset] [.int (Int32.ofNat len)])) := c1.trans (by
    refine XS.iloadN X0.here hexec rfl (hb hbytes d0) rfl ?_
    exact Steps.refl _)
  obtain ⟨T3, B3, X3, ba3, bs3, bv3, bh3, bf3, st3⟩ := X0.anew hexec (atype := .byte) (wk W (.arrayClass .byte)) rfl (by show len * 1 ≤ _; omega) (by omega) (g := (mkF m 1 #[.val (.ref b), .val (.int (Int32.ofNat o)), .val (.int (Int32.ofNat len)), .unset, .unset, .unset] [.int (Int32.ofNat len)])) rfl (hb hbytes d1) (rest := []) rfl (Nat.le_refl _) (by show 0 + len ≤ len; omega)
  rw [hh0] at ba3 st3
  have kp3 : XT.Kept s T3 := (XT.Kept.of_eq hh0).push bh3
  have hA3 := hA.keep X3.warmed.alike (kp3 _ _ hA.1.1)
  have hne : b ≠ s.heap.size := hA.1.ne
  have c4 : Steps p.tables e below (s₁.setTop (entryFrame m #[.ref b, .int (Int32.ofNat o), .int (Int32.ofNat len)] 6)) (T3.setTop (mkF m 3 #[.val (.ref b), .val (.int (Int32.ofNat o)), .val (.int (Int32.ofNat len)), .unset, .unset, .unset] [.ref s.heap.size])) := c2.trans (st3 _ (Steps.refl _))
  have c5 : Steps p.tables e below (s₁.setTop (entryFrame m #[.ref b, .int (Int32.ofNat o), .int (Int32.ofNat len)] 6)) (T3.setTop (mkF m 9 #[.val (.ref b), .val (.int (Int32.ofNat o)), .val (.int (Int32.ofNat len)), .val (.ref s.heap.size), .unset, .unset] [.int (Int32.ofNat len), .int 0, .ref s.heap.size, .int (Int32.ofNat o), .ref b])) := c4.trans (by
    refine XS.astoreN X3.here hexec rfl (hb hbytes d3) rfl rfl rfl ?_
    refine XS.aloadN X3.here hexec rfl (hb hbytes d4) rfl rfl ?_
    refine XS.iloadN X3.here hexec rfl (hb hbytes d5) rfl ?_
    refine XS.aloadN X3.here hexec rfl (hb hbytes d6) rfl rfl ?_
    refine iconstV X3.here hexec rfl 0 (hb hbytes d7) (by decide) ?_
    refine XS.iloadN X3.here hexec rfl (hb hbytes d8) rfl ?_
    exact Steps.refl _)
  obtain ⟨v6, T6, X6, E6, g6⟩ := X3.callS hexec (Cmp5.law l b A s.heap.size B3 o 0 len) hown (wks W (staticW U16 115 Cmp5.yN)) (wk W Cmp5.tab) (W := 0) (Nat.le_of_ble_eq_true rfl) (Nat.le_of_ble_eq_true rfl) (Nat.le_refl _) (by show 0 + len + 0 ≤ len; omega) (g := (mkF m 9 #[.val (.ref b), .val (.int (Int32.ofNat o)), .val (.int (Int32.ofNat len)), .val (.ref s.heap.size), .unset, .unset] [.int (Int32.ofNat len), .int (Int32.ofNat 0), .ref s.heap.size, .int (Int32.ofNat o), .ref b])) rfl (by rw [hml]; rfl) c5 (argsL := [.ref b, .int (Int32.ofNat o), .ref s.heap.size, .int (Int32.ofNat 0), .int (Int32.ofNat len)]) (rest := []) rfl rfl (by show 2 * 0 + 0 ≤ _; decide) (hb hbytes d9) (⟨rfl, hA3, ba3, hne, l1, by rw [bs3]; simp, hp⟩)
  obtain ⟨rfl, B6, p6, f6⟩ := E6
  have c7 : Steps p.tables e below (s₁.setTop (entryFrame m #[.ref b, .int (Int32.ofNat o), .int (Int32.ofNat len)] 6)) (T6.setTop (mkF m 12 #[.val (.ref b), .val (.int (Int32.ofNat o)), .val (.int (Int32.ofNat len)), .val (.ref s.heap.size), .unset, .unset] [.int (Int32.ofNat len)])) := g6
  have c8 : Steps p.tables e below (s₁.setTop (entryFrame m #[.ref b, .int (Int32.ofNat o), .int (Int32.ofNat len)] 6)) (T6.setTop (mkF m 58 #[.val (.ref b), .val (.int (Int32.ofNat o)), .val (.int (Int32.ofNat len)), .val (.ref s.heap.size), .val (.int (Int32.ofNat len)), .unset] [.ref s.heap.size])) := c7.trans (by
    refine XS.istore X6.here hexec rfl (hb hbytes d12) rfl rfl ?_
    refine XS.iload X6.here hexec rfl (hb hbytes d14) rfl ?_
    refine XS.iloadN X6.here hexec rfl (hb hbytes d16) rfl ?_
    refine XS.icmpYes X6.here hexec rfl (pc0 := 17) rfl (hb hbytes d17) rfl (ii_eq_t rfl) (by decide) rfl ?_
    refine XS.aloadN X6.here hexec rfl (hb hbytes d57) rfl rfl ?_
    exact Steps.refl _)
  have X8 := X6.wide (L' := []) (cells' := 1) (slots' := len) (fun x hx hlt => by
    simp only [List.nil_append, copyLocs, List.mem_map, List.mem_range] at hx
    obtain ⟨i, -, rfl⟩ := hx
    exact absurd hlt (Nat.lt_irrefl _)) (Nat.le_refl _) (by omega)
  exact ⟨T6, some (.ref s.heap.size), _, _, _, X8, rfl, rfl, rfl, (fun h => by cases h), ⟨⟨rfl, B6, ba3.like (X3.warmed.alike.symm.trans X6.warmed.alike) p6.1 f6.1 f6.2.1 f6.2.2.1, f6.2.1.trans bv3, by rw [X6.warmed.alike.findClass, f6.1]; exact bf3, by rw [f6.2.2.1, bs3]; simp, fun j hj => by rw [f6.2.2.2 j, if_pos (by omega)]; rfl, kp3.put p6 (Nat.le_refl _)⟩, by rw [p6.2.2, bh3, hh0]; simp⟩, fun fs hl => c8.trans (X8.areturnOut hexec rfl hret rfl (hb hbytes d58) hl)⟩
end Cmp3
namespace CodL
def yN : MethodName := ⟨"java/lang/StringUTF16", "coderFromArrayLen", "([BI)B"⟩
abbrev yB : ByteArray := jdk_52_method_15_code
theorem d0 : decode yB 0 = .ok (.iload_n 1, 1) := by decide +kernel
theorem d1 : decode yB 1 = .ok (.aload_n 0, 1) := by decide +kernel
theorem d2 : decode yB 2 = .ok (.arraylength, 1) := by decide +kernel
theorem d3 : decode yB 3 = .ok (.isub, 1) := by decide +kernel
theorem d4 : decode yB 4 = .ok (.bipush 31, 2) := by decide +kernel
theorem d6 : decode yB 6 = .ok (.iushr, 1) := by decide +kernel
theorem d7 : decode yB 7 = .ok (.i2b, 1) := by decide +kernel
theorem d8 : decode yB 8 = .ok (.ireturn, 1) := by decide +kernel
def site : List Cond := []
def tab : Cond := tabOf yN yB 2 (some .byte) site
def P (d : Addr) (B : Cell) (args : Array Value) (s : State) : Prop := args = #[.ref d, .int (Int32.ofNat B.slots.size)] ∧ Arr .byte d B s
def E (r : Option Value) (s u : State) : Prop := XT.PureE (some (.int 0)) r s u
/-- an array as long as the number of chars: LATIN1 -/
theorem law (l : Launch) (d : Addr) (B : Cell) : Law l yN 2 2 0 0 yB 2 (some .byte) site (P d B) E [] 0 0 := by
  refine Law.of_walk (plainFor_of_name (by decide +kernel)) (by decide +kernel) (by decide +kernel) (by decide) (fun _ _ h => by rw [h.1]; rfl) (fun _ U U' hal hh h => ⟨h.1, h.2.mv hal hh⟩) (fun r U U' V V' h1 hal h2 h => XT.PureE.mv r U U' V V' h1 hal h2 h) ?_
  intro p e s m args below meth c s₁ X0 hexec hbytes hml hret hlk hnm hown hh0 W hP
  obtain ⟨rfl, hB⟩ := hP
  have hB0 := hB.mv X0.warmed.alike hh0
  have c1 : Steps p.tables e below (s₁.setTop (entryFrame m #[.ref d, .int (Int32.ofNat B.slots.size)] 2)) (s₁.setTop (mkF m 0 #[.val (.ref d), .val (.int (Int32.ofNat B.slots.size))] [])) := entry rfl
  have c2 : Steps p.tables e below (s₁.setTop (entryFrame m #[.ref d, .int (Int32.ofNat B.slots.size)] 2)) (s₁.setTop (mkF m 2 #[.val (.ref d), .val (.int (Int32.ofNat B.slots.size))] [.ref d, .int (Int32.ofNat B.slots.size)])) := c1.trans (by
    refine XS.iloadN X0.here hexec rfl (hb hbytes d0) rfl ?_
    refine XS.aloadN X0.here hexec rfl (hb hbytes d1) rfl rfl ?_
    exact Steps.refl _)
  have c3 : Steps p.tables e below (s₁.setTop (entryFrame m #[.ref d, .int (Int32.ofNat B.slots.size)] 2)) (s₁.setTop (mkF m 8 #[.val (.ref d), .val (.int (Int32.ofNat B.slots.size))] [.int (lo8 (ushr (Int32.ofNat B.slots.size - Int32.ofNat B.slots.size) 31))])) := c2.trans (by
    refine X0.alen hexec hB0 rfl rfl (hb hbytes d2) ?_
    refine XS.isub X0.here hexec rfl (hb hbytes d3) rfl ?_
    refine bipushV X0.here hexec rfl 31 (hb hbytes d4) (by decide) ?_
    refine iushr X0.here hexec rfl (hb hbytes d6) rfl ?_
    refine i2b X0.here hexec rfl (hb hbytes d7) rfl ?_
    exact Steps.refl _)
  have e0 : lo8 (ushr (Int32.ofNat B.slots.size - Int32.ofNat B.slots.size) 31) = 0 := by rw [Int32.sub_self]; decide
  rw [e0] at c3
  exact ⟨s₁, some (.int 0), _, _, _, X0, rfl, rfl, rfl, (fun h => by cases h), ⟨rfl, hh0⟩, fun fs hl => c3.trans (X0.ireturnOut hexec hret rfl (Or.inr (Or.inr (Or.inl rfl))) (hb hbytes d8) hl)⟩
end CodL
/-- the String at a is Latin-1 over a new byte[] (the heap's one new cell): the low bytes of the len chars of A from o on; every cell but a is kept -/
def Got (a : Addr) (D : Cell) (fV fC : Field) (A : Cell) (o len : Nat) (r : Option Value) (s u : State) : Prop := r = none ∧ ∃ D' V : Cell, Blank "java/lang/String" a D' u ∧ Same D D' [fV.slot, fC.slot] ∧ D'.slots[fV.slot]? = some (.ref s.heap.size) ∧ D'.slots[fC.slot]? = some (.int 0) ∧ Arr .byte s.heap.size V u ∧ V.vm = .none ∧ u.vm.findClass "[B" = some V.cls ∧ V.slots.size = len ∧ (∀ j, j < len → V.slots[j]? = some (.int (lo8 (cv A (o + j))))) ∧ (∀ (y : Addr) (c : Cell), y ≠ a → s.heap[y]? = some c → u.heap[y]? = some c) ∧ u.heap.size = s.heap.size + 1
theorem Got.mv {a : Addr} {D A : Cell} {fV fC : Field} {o len : Nat} : ∀ r (U U' V V' : State), U'.heap = U.heap → V.vm.Alike V'.vm → V'.heap = V.heap → Got a D fV fC A o len r U V → Got a D fV fC A o len r U' V' :=
  fun r U U' V V' h1 hal h2 ⟨e0, D', X, a1, a2, a3, a4, a5, a6, a7, a8, a9, a10, a11⟩ => ⟨e0, D', X, a1.mv hal h2, a2, by rw [h1]; exact a3, a4, by rw [h1]; exact a5.mv hal h2, a6, by rw [hal.findClass]; exact a7, a8, a9, by rw [h1, h2]; exact a10, by rw [h1, h2]; exact a11⟩
namespace New4
def yN : MethodName := ⟨"java/lang/String", "<init>", "([CIILjava/lang/Void;)V"⟩
abbrev yB : ByteArray := jdk_42_method_149_code
theorem d0 : decode yB 0 = .ok (.aload_n 0, 1) := by decide +kernel
theorem d1 : decode yB 1 = .ok (.invokespecial 1, 3) := by decide +kernel
theorem d4 : decode yB 4 = .ok (.iload_n 3, 1) := by decide +kernel
theorem d5 : decode yB 5 = .ok (.ifCond (.ne) 22, 3) := by decide +kernel
theorem d27 : decode yB 27 = .ok (.getstatic 38, 3) := by decide +kernel
theorem d30 : decode yB 30 = .ok (.ifCond (.eq) 28, 3) := by decide +kernel
theorem d33 : decode yB 33 = .ok (.aload_n 1, 1) := by decide +kernel
theorem d34 : decode yB 34 = .ok (.iload_n 2, 1) := by decide +kernel
theorem d35 : decode yB 35 = .ok (.iload_n 3, 1) := by decide +kernel
theorem d36 : decode yB 36 = .ok (.invokestatic 177, 3) := by decide +kernel
theorem d39 : decode yB 39 = .ok (.astore 5, 2) := by decide +kernel
theorem d41 : decode yB 41 = .ok (.aload_n 0, 1) := by decide +kernel
theorem d42 : decode yB 42 = .ok (.aload 5, 2) := by decide +kernel
theorem d44 : decode yB 44 = .ok (.iload_n 3, 1) := by decide +kernel
theorem d45 : decode yB 45 = .ok (.invokestatic 47, 3) := by decide +kernel
theorem d48 : decode yB 48 = .ok (.putfield 15, 3) := by decide +kernel
theorem d51 : decode yB 51 = .ok (.aload_n 0, 1) := by decide +kernel
theorem d52 : decode yB 52 = .ok (.aload 5, 2) := by decide +kernel
theorem d54 : decode yB 54 = .ok (.putfield 9, 3) := by decide +kernel
theorem d57 : decode yB 57 = .ok (.return_, 1) := by decide +kernel
def site : List Cond := [.fieldLink "java/lang/String" 38 "java/lang/String" "COMPACT_STRINGS" "Z", Cmp3.tab, CodL.tab, .laysFinal "java/lang/String" "java/lang/String" "value" "[B", .fieldLink "java/lang/String" 9 "java/lang/String" "value" "[B", .laysFinal "java/lang/String" "java/lang/String" "coder" "B", .fieldLink "java/lang/String" 15 "java/lang/String" "coder" "B"] ++ objW "java/lang/String" 1 ++ staticW "java/lang/String" 177 Cmp3.yN ++ staticW "java/lang/String" 47 CodL.yN
def tab : Cond := tabOf yN yB 6 none site
def P (a : Addr) (D : Cell) (fV fC : Field) (b : Addr) (A : Cell) (z : Int32) (o len : Nat) (args : Array Value) (s : State) : Prop := args = #[.ref a, .ref b, .int (Int32.ofNat o), .int (Int32.ofNat len), .null] ∧ Blank "java/lang/String" a D s ∧ Found "java/lang/String" "value" "[B" fV s ∧ Found "java/lang/String" "coder" "B" fC s ∧ Ch b A s ∧ StaticIs s "java/lang/String" "COMPACT_STRINGS" "Z" (.int z) ∧ ¬ z = 0 ∧ 0 < len ∧ o + len ≤ A.slots.size ∧ len ≤ 536870912 ∧ ∀ i, i < len → ¬ 255 < cv A (o + i)
def E (a : Addr) (D : Cell) (fV fC : Field) (A : Cell) (o len : Nat) (r : Option Value) (s u : State) : Prop := Got a D fV fC A o len r s u
/-- len > 0, no char of the range above 255: a Latin-1 String of their low bytes -/
theorem law (l : Launch) (a : Addr) (D : Cell) (fV fC : Field) (b : Addr) (A : Cell) (z : Int32) (o len : Nat) : Law l yN 5 4 2 35 yB 6 none site (P a D fV fC b A z o len) (E a D fV fC A o len) [⟨a, fC.slot⟩, ⟨a, fV.slot⟩] 1 len := by
  refine Law.of_walk (plainFor_of_name (by decide +kernel)) (by decide +kernel) (by decide +kernel) (by decide) (fun _ _ h => by rw [h.1]; rfl) (fun _ U U' hal hh h => ⟨h.1, h.2.1.mv hal hh, h.2.2.1.al hal, h.2.2.2.1.al hal, h.2.2.2.2.1.mv hal hh, h.2.2.2.2.2.1.there hal hh, h.2.2.2.2.2.2⟩) (fun r U U' V V' h1 hal h2 h => Got.mv r U U' V V' h1 hal h2 h) ?_
  intro p e s m args below meth c s₁ X0 hexec hbytes hml hret hlk hnm hown hh0 W hP
  obtain ⟨rfl, hB, f1, f2, hA, s1, hz, l0, l1, l2, hp⟩ := hP
  have a31 := hA.1.2.2.2
  have c1 : Steps p.tables e below (s₁.setTop (entryFrame m #[.ref a, .ref b, .int (Int32.ofNat o), .int (Int32.ofNat len), .null] 6)) (s₁.setTop (mkF m 0 #[.val (.ref a), .val (.ref b), .val (.int (Int32.ofNat o)), .val (.int (Int32.ofNat len)), .val .null, .unset] [])) := entry rfl
  have c2 : Steps p.tables e below (s₁.setTop (entryFrame m #[.ref a, .ref b, .int (Int32.ofNat o), .int (Int32.ofNat len), .null] 6)) (s₁.setTop (mkF m 1 #[.val (.ref a), .val (.ref b), .val (.int (Int32.ofNat o)), .val (.int (Int32.ofNat len)), .val .null, .unset] [.ref a])) := c1.trans (by
    refine XS.aloadN X0.here hexec rfl (hb hbytes d0) rfl rfl ?_
    exact Steps.refl _)
  obtain ⟨T3, X3, q3, st3⟩ := X0.oinit hexec hown (wks W (objW "java/lang/String" 1)) (g := (mkF m 1 #[.val (.ref a), .val (.ref b), .val (.int (Int32.ofNat o)), .val (.int (Int32.ofNat len)), .val .null, .unset] [.ref a])) rfl (by rw [hml]; rfl) (rest := []) rfl (hb hbytes d1) (W := 0) (by show 2 * 0 + 0 ≤ _; decide) (Nat.le_of_ble_eq_true rfl) (Nat.le_of_ble_eq_true rfl)
  have hh3 := q3.trans hh0
  have c4 : Steps p.tables e below (s₁.setTop (entryFrame m #[.ref a, .ref b, .int (Int32.ofNat o), .int (Int32.ofNat len), .null] 6)) (T3.setTop (mkF m 27 #[.val (.ref a), .val (.ref b), .val (.int (Int32.ofNat o)), .val (.int (Int32.ofNat len)), .val .null, .unset] [])) := (c2.trans (st3 _ (Steps.refl _))).trans (by
    refine XS.iloadN X3.here hexec rfl (hb hbytes d4) rfl ?_
    refine XS.ifYes X3.here hexec rfl (pc0 := 5) rfl (hb hbytes d5) rfl (i0_ne_t (nz32 (by omega) l0)) (by decide) rfl ?_
    exact Steps.refl _)
  obtain ⟨T5, X5, q5, st5⟩ := X3.sget hexec hown (wk W (.fieldLink "java/lang/String" 38 "java/lang/String" "COMPACT_STRINGS" "Z")) s1 (fun _ _ h => by rw [hh3]; exact h) (g := (mkF m 27 #[.val (.ref a), .val (.ref b), .val (.int (Int32.ofNat o)), .val (.int (Int32.ofNat len)), .val .null, .unset] [])) rfl (hb hbytes d27)
  have hh5 := q5.trans hh3
  have c6 : Steps p.tables e below (s₁.setTop (entryFrame m #[.ref a, .ref b, .int (Int32.ofNat o), .int (Int32.ofNat len), .null] 6)) (T5.setTop (mkF m 30 #[.val (.ref a), .val (.ref b), .val (.int (Int32.ofNat o)), .val (.int (Int32.ofNat len)), .val .null, .unset] [.int z])) := c4.trans (st5 _ (Steps.refl _))
  have c7 : Steps p.tables e below (s₁.setTop (entryFrame m #[.ref a, .ref b, .int (Int32.ofNat o), .int (Int32.ofNat len), .null] 6)) (T5.setTop (mkF m 36 #[.val (.ref a), .val (.ref b), .val (.int (Int32.ofNat o)), .val (.int (Int32.ofNat len)), .val .null, .unset] [.int (Int32.ofNat len), .int (Int32.ofNat o), .ref b])) := c6.trans (by
    refine XS.ifNo X5.here hexec rfl (hb hbytes d30) rfl (i0_eq_f hz) ?_
    refine XS.aloadN X5.here hexec rfl (hb hbytes d33) rfl rfl ?_
    refine XS.iloadN X5.here hexec rfl (hb hbytes d34) rfl ?_
    refine XS.iloadN X5.here hexec rfl (hb hbytes d35) rfl ?_
    exact Steps.refl _)
  obtain ⟨v8, T8, X8, E8, g8⟩ := X5.callS hexec (Cmp3.law l b A o len) hown (wks W (staticW "java/lang/String" 177 Cmp3.yN)) (wk W Cmp3.tab) (W := 0) (Nat.le_of_ble_eq_true rfl) (Nat.le_of_ble_eq_true rfl) (Nat.le_refl _) (by show 0 + len ≤ len; omega) (g := (mkF m 36 #[.val (.ref a), .val (.ref b), .val (.int (Int32.ofNat o)), .val (.int (Int32.ofNat len)), .val .null, .unset] [.int (Int32.ofNat len), .int (Int32.ofNat o), .ref b])) rfl (by rw [hml]; rfl) c7 (argsL := [.ref b, .int (Int32.ofNat o), .int (Int32.ofNat len)]) (rest := []) rfl rfl (by show 2 * 0 + 0 ≤ _; decide) (hb hbytes d36) (⟨rfl, hA.mv X5.warmed.alike hh5, l1, l2, hp⟩)
  obtain ⟨e8, z8⟩ := E8
  obtain ⟨rfl, N, n1, n2, n3, n4, n5, n6⟩ := NewArr.mv _ T5 s _ _ hh5.symm (Vm.Alike.refl _) rfl e8
  rw [hh5] at z8
  have hB1 := hB.keep X8.warmed.alike (n6 _ _ hB.1)
  have hne : s.heap.size ≠ a := (Nat.ne_of_lt (Array.getElem?_eq_some_iff.mp hB.1).1).symm
  have c9 : Steps p.tables e below (s₁.setTop (entryFrame m #[.ref a, .ref b, .int (Int32.ofNat o), .int (Int32.ofNat len), .null] 6)) (T8.setTop (mkF m 39 #[.val (.ref a), .val (.ref b), .val (.int (Int32.ofNat o)), .val (.int (Int32.ofNat len)), .val .null, .unset] [.ref s.heap.size])) := g8
  have c10 : Steps p.tables e below (s₁.setTop (entryFrame m #[.ref a, .ref b, .int (Int32.ofNat o), .int (Int32.ofNat len), .null] 6)) (T8.setTop (mkF m 45 #[.val (.ref a), .val (.ref b), .val (.int (Int32.ofNat o)), .val (.int (Int32.ofNat len)), .val .null, .val (.ref s.heap.size)] [.int (Int32.ofNat N.slots.size), .ref s.heap.size, .ref a])) := by
    have hc : Steps p.tables e below (s₁.setTop (entryFrame m #[.ref a, .ref b, .int (Int32.ofNat o), .int (Int32.ofNat len), .null] 6)) (T8.setTop (mkF m 45 #[.val (.ref a), .val (.ref b), .val (.int (Int32.ofNat o)), .val (.int (Int32.ofNat len)), .val .null, .val (.ref s.heap.size)] [.int (Int32.ofNat len), .ref s.heap.size, .ref a])) := c9.trans (by
      refine XS.astore X8.here hexec rfl (hb hbytes d39) rfl rfl rfl ?_
      refine XS.aloadN X8.here hexec rfl (hb hbytes d41) rfl rfl ?_
      refine XS.aload X8.here hexec rfl (hb hbytes d42) rfl rfl ?_
      refine XS.iloadN X8.here hexec rfl (hb hbytes d44) rfl ?_
      exact Steps.refl _)
    rw [n4]; exact hc
  obtain ⟨v11, T11, X11, E11, g11⟩ := X8.callS hexec (CodL.law l s.heap.size N) hown (wks W (staticW "java/lang/String" 47 CodL.yN)) (wk W CodL.tab) (W := 1) (Nat.le_of_ble_eq_true rfl) (Nat.le_of_ble_eq_true rfl) (Nat.le_refl _) (by show 0 + len + 0 ≤ len; omega) (g := (mkF m 45 #[.val (.ref a), .val (.ref b), .val (.int (Int32.ofNat o)), .val (.int (Int32.ofNat len)), .val .null, .val (.ref s.heap.size)] [.int (Int32.ofNat N.slots.size), .ref s.heap.size, .ref a])) rfl (by rw [hml]; rfl) c10 (argsL := [.ref s.heap.size, .int (Int32.ofNat N.slots.size)]) (rest := [.ref a]) rfl rfl (by show 2 * 0 + (1 + 0) ≤ _; decide) (hb hbytes d45) (⟨rfl, n1⟩)
  obtain ⟨rfl, q11⟩ := E11
  have hB11 := hB1.mv (X8.warmed.alike.symm.trans X11.warmed.alike) q11
  have c12 : Steps p.tables e below (s₁.setTop (entryFrame m #[.ref a, .ref b, .int (Int32.ofNat o), .int (Int32.ofNat len), .null] 6)) (T11.setTop (mkF m 48 #[.val (.ref a), .val (.ref b), .val (.int (Int32.ofNat o)), .val (.int (Int32.ofNat len)), .val .null, .val (.ref s.heap.size)] [.int 0, .ref a])) := g11
  obtain ⟨T13, X13, p13, bl13, sl13, st13⟩ := X11.finit hexec hown (wk W (.fieldLink "java/lang/String" 15 "java/lang/String" "coder" "B")) (Or.inr ⟨_, (wk W (.laysFinal "java/lang/String" "java/lang/String" "coder" "B"))⟩) (Or.inl ⟨rfl, hnm⟩) f2 (Or.inl rfl) hB11 (t := .byte) (by decide +kernel) rfl (g := (mkF m 48 #[.val (.ref a), .val (.ref b), .val (.int (Int32.ofNat o)), .val (.int (Int32.ofNat len)), .val .null, .val (.ref s.heap.size)] [.int 0, .ref a])) rfl (rest := []) rfl (hb hbytes d48)
  have c14 : Steps p.tables e below (s₁.setTop (entryFrame m #[.ref a, .ref b, .int (Int32.ofNat o), .int (Int32.ofNat len), .null] 6)) (T13.setTop (mkF m 54 #[.val (.ref a), .val (.ref b), .val (.int (Int32.ofNat o)), .val (.int (Int32.ofNat len)), .val .null, .val (.ref s.heap.size)] [.ref s.heap.size, .ref a])) := (c12.trans (st13 _ (Steps.refl _))).trans (by
    refine XS.aloadN X13.here hexec rfl (hb hbytes d51) rfl rfl ?_
    refine XS.aload X13.here hexec rfl (hb hbytes d52) rfl rfl ?_
    exact Steps.refl _)
  obtain ⟨T15, X15, p15, bl15, sl15, st15⟩ := X13.finit hexec hown (wk W (.fieldLink "java/lang/String" 9 "java/lang/String" "value" "[B")) (Or.inr ⟨_, (wk W (.laysFinal "java/lang/String" "java/lang/String" "value" "[B"))⟩) (Or.inl ⟨rfl, hnm⟩) f1 (Or.inl rfl) bl13 (t := (.array .byte)) (by decide +kernel) rfl (g := (mkF m 54 #[.val (.ref a), .val (.ref b), .val (.int (Int32.ofNat o)), .val (.int (Int32.ofNat len)), .val .null, .val (.ref s.heap.size)] [.ref s.heap.size, .ref a])) rfl (rest := []) rfl (hb hbytes d54)
  have c16 : Steps p.tables e below (s₁.setTop (entryFrame m #[.ref a, .ref b, .int (Int32.ofNat o), .int (Int32.ofNat len), .null] 6)) (T15.setTop (mkF m 57 #[.val (.ref a), .val (.ref b), .val (.int (Int32.ofNat o)), .val (.int (Int32.ofNat len)), .val .null, .val (.ref s.heap.size)] [])) := c14.trans (st15 _ (Steps.refl _))
  have ap := apart (Or.inr ⟨_, (wk W (.laysFinal "java/lang/String" "java/lang/String" "value" "[B"))⟩) (Or.inr ⟨_, (wk W (.laysFinal "java/lang/String" "java/lang/String" "coder" "B"))⟩) f1 f2 (t₁ := .array .byte) (t₂ := .byte) (by decide +kernel) (by decide +kernel) (by decide)
  have al := X8.warmed.alike.symm.trans X15.warmed.alike
  have n7 : T11.heap[s.heap.size]? = some N := by rw [q11]; exact n1.1
  exact ⟨T15, none, _, _, _, X15, by simp, rfl, by omega, (fun _ => rfl), ⟨rfl, _, N, bl15, ((Same.refl D _).set _ (by simp)).set _ (by simp), sl15, (Cell.slots_setSlot_ne _ ap).trans sl13, n1.keep al (p15.other hne (p13.other hne n7)), n2, by rw [al.findClass]; exact n3, n4, n5, fun y c h1 h2 => p15.other h1 (p13.other h1 (by rw [q11]; exact n6 y c h2)), by rw [p15.2.2, p13.2.2, q11]; exact z8⟩, fun fs hl => c16.trans (X15.returnOut hexec hret (hb hbytes d57) hl)⟩
end New4
namespace New1
def yN : MethodName := ⟨"java/lang/String", "<init>", "([C)V"⟩
abbrev yB : ByteArray := jdk_42_method_3_code
theorem d0 : decode yB 0 = .ok (.aload_n 0, 1) := by decide +kernel
theorem d1 : decode yB 1 = .ok (.aload_n 1, 1) := by decide +kernel
theorem d2 : decode yB 2 = .ok (.iconst 0, 1) := by decide +kernel
theorem d3 : decode yB 3 = .ok (.aload_n 1, 1) := by decide +kernel
theorem d4 : decode yB 4 = .ok (.arraylength, 1) := by decide +kernel
theorem d5 : decode yB 5 = .ok (.aconst_null, 1) := by decide +kernel
theorem d6 : decode yB 6 = .ok (.invokespecial 27, 3) := by decide +kernel
theorem d9 : decode yB 9 = .ok (.return_, 1) := by decide +kernel
def site : List Cond := [New4.tab] ++ initW "java/lang/String" 27 New4.yN
def tab : Cond := tabOf yN yB 2 none site
def P (a : Addr) (D : Cell) (fV fC : Field) (b : Addr) (A : Cell) (z : Int32) (args : Array Value) (s : State) : Prop := args = #[.ref a, .ref b] ∧ Blank "java/lang/String" a D s ∧ Found "java/lang/String" "value" "[B" fV s ∧ Found "java/lang/String" "coder" "B" fC s ∧ Ch b A s ∧ StaticIs s "java/lang/String" "COMPACT_STRINGS" "Z" (.int z) ∧ ¬ z = 0 ∧ 0 < A.slots.size ∧ A.slots.size ≤ 536870912 ∧ ∀ i, i < A.slots.size → ¬ 255 < cv A i
def E (a : Addr) (D : Cell) (fV fC : Field) (A : Cell) (r : Option Value) (s u : State) : Prop := Got a D fV fC A 0 A.slots.size r s u
/-- new String(chars), not empty, no char above 255: a Latin-1 String of their low bytes -/
theorem law (l : Launch) (a : Addr) (D : Cell) (fV fC : Field) (b : Addr) (A : Cell) (z : Int32) : Law l yN 2 1 3 52 yB 2 none site (P a D fV fC b A z) (E a D fV fC A) [⟨a, fC.slot⟩, ⟨a, fV.slot⟩] 1 A.slots.size := by
  refine Law.of_walk (plainFor_of_name (by decide +kernel)) (by decide +kernel) (by decide +kernel) (by decide) (fun _ _ h => by rw [h.1]; rfl) (fun _ U U' hal hh h => ⟨h.1, h.2.1.mv hal hh, h.2.2.1.al hal, h.2.2.2.1.al hal, h.2.2.2.2.1.mv hal hh, h.2.2.2.2.2.1.there hal hh, h.2.2.2.2.2.2⟩) (fun r U U' V V' h1 hal h2 h => Got.mv r U U' V V' h1 hal h2 h) ?_
  intro p e s m args below meth c s₁ X0 hexec hbytes hml hret hlk hnm hown hh0 W hP
  obtain ⟨rfl, hB, f1, f2, hA, s1, hz, l0, l2, hp⟩ := hP
  have c1 : Steps p.tables e below (s₁.setTop (entryFrame m #[.ref a, .ref b] 2)) (s₁.setTop (mkF m 0 #[.val (.ref a), .val (.ref b)] [])) := entry rfl
  have c2 : Steps p.tables e below (s₁.setTop (entryFrame m #[.ref a, .ref b] 2)) (s₁.setTop (mkF m 6 #[.val (.ref a), .val (.ref b)] [.null, .int (Int32.ofNat A.slots.size), .int 0, .ref b, .ref a])) := c1.trans (by
    refine XS.aloadN X0.here hexec rfl (hb hbytes d0) rfl rfl ?_
    refine XS.aloadN X0.here hexec rfl (hb hbytes d1) rfl rfl ?_
    refine iconstV X0.here hexec rfl 0 (hb hbytes d2) (by decide) ?_
    refine XS.aloadN X0.here hexec rfl (hb hbytes d3) rfl rfl ?_
    refine X0.alen hexec (hA.1.mv X0.warmed.alike hh0) rfl rfl (hb hbytes d4) ?_
    refine XS.aconstNull X0.here hexec rfl (hb hbytes d5) ?_
    exact Steps.refl _)
  obtain ⟨v3, T3, X3, E3, g3⟩ := X0.callN hexec (New4.law l a D fV fC b A z 0 A.slots.size) rfl hown (wks W (initW "java/lang/String" 27 New4.yN)) (W New4.tab (by simp only [site, List.mem_cons, List.mem_append, true_or, or_true])) (W := 0) (Nat.le_of_ble_eq_true rfl) (Nat.le_of_ble_eq_true rfl) (Nat.le_refl _) (by show 0 + A.slots.size ≤ A.slots.size; omega) (g := (mkF m 6 #[.val (.ref a), .val (.ref b)] [.null, .int (Int32.ofNat A.slots.size), .int (Int32.ofNat 0), .ref b, .ref a])) rfl (by rw [hml]; rfl) c2 (argsL := [.ref b, .int (Int32.ofNat 0), .int (Int32.ofNat A.slots.size), .null]) (rest := []) rfl rfl (by show 2 * 0 + 0 ≤ _; decide) (hb hbytes d6) (⟨rfl, hB.mv X0.warmed.alike hh0, f1.al X0.warmed.alike, f2.al X0.warmed.alike, hA.mv X0.warmed.alike hh0, s1.there X0.warmed.alike hh0, hz, l0, by omega, l2, fun i hi => by rw [Nat.zero_add]; exact hp i hi⟩)
  have e0 := Got.mv _ s₁ s _ _ hh0.symm (Vm.Alike.refl _) rfl E3
  obtain rfl := e0.1
  have c4 : Steps p.tables e below (s₁.setTop (entryFrame m #[.ref a, .ref b] 2)) (T3.setTop (mkF m 9 #[.val (.ref a), .val (.ref b)] [])) := g3
  exact ⟨T3, none, _, _, _, X3, by simp, rfl, by omega, (fun _ => rfl), e0, fun fs hl => c4.trans (X3.returnOut hexec hret (hb hbytes d9) hl)⟩
theorem pays {l : Launch} {R : Room} {p : Program} {e : Env} {below : List Frame} {s : State} {sargs : Array Value} {len W : Nat} (a : Addr) (D : Cell) (fV fC : Field) (b : Addr) (A : Cell) (z : Int32) (htab : tab.before sargs s = true) (hfr : 4 ≤ R.frames) (hlo : W + 65 ≤ R.locals) :
    Back l R p e below s sargs yN len W (fun A₁ a₁ => A₁.cells + 1 ≤ R.cells ∧ A₁.slots + A.slots.size ≤ R.slots ∧ P a D fV fC b A z a₁ A₁.U) (fun A₁ _ v₁ B₁ => E a D fV fC A v₁ A₁.U B₁.U ∧ B₁.locs = A₁.locs ++ [⟨a, fC.slot⟩, ⟨a, fV.slot⟩] ∧ B₁.cells = A₁.cells + 1 ∧ B₁.slots = A₁.slots + A.slots.size) :=
  (law l a D fV fC b A z).pays htab hfr (by omega)
end New1
end StrChars
namespace StrChars.Road
open Jvm Sem ClassFile Op Lib Jvm.Stand Jvm.Free Jvm.Free.XT
open Jvm.Lib.Cold (StaticIs)
abbrev ST : String := "java/lang/String"
/-- every table word that New1's law asks, flat -/
abbrev words : List Jvm.Cond := [.code New1.yN New1.yB 2 none, .initialized ST, .methodLink ST 27 New4.yN, .instanceMethod New4.yN,
  .code New4.yN New4.yB 6 none, .fieldLink ST 38 ST "COMPACT_STRINGS" "Z", .laysFinal ST ST "value" "[B", .fieldLink ST 9 ST "value" "[B", .laysFinal ST ST "coder" "B", .fieldLink ST 15 ST "coder" "B",
  .methodLink ST 1 Lib.objectInit, .instanceMethod Lib.objectInit, .code Lib.objectInit ⟨#[0xb1]⟩ 1 none, .methodLink ST 177 Cmp3.yN, .static Cmp3.yN, .methodLink ST 47 CodL.yN, .static CodL.yN,
  .code Cmp3.yN Cmp3.yB 6 (some (.array .byte)), .initialized U16, .arrayClass .byte, .methodLink U16 115 Cmp5.yN, .static Cmp5.yN, .code Cmp5.yN Cmp5.yB 7 (some .int), .code CodL.yN CodL.yB 2 (some .byte)]
theorem tab_of {a : Array Value} {s : State} (h : ∀ w ∈ words, w.before a s = true) : New1.tab.before a s = true := by
  have h5 : Cmp5.tab.before a s = true := unparts (wk h (.code Cmp5.yN Cmp5.yB 7 (some .int))) (wks h (.initialized Cmp5.yN.cls :: Cmp5.site))
  have hc : CodL.tab.before a s = true := unparts (wk h (.code CodL.yN CodL.yB 2 (some .byte))) (wks h (.initialized CodL.yN.cls :: CodL.site))
  have q5 : ∀ w ∈ Cmp5.tab :: words, w.before a s = true := fun w hw => (List.mem_cons.mp hw).elim (fun e => e ▸ h5) (h w)
  have h3 : Cmp3.tab.before a s = true := unparts (wk q5 (.code Cmp3.yN Cmp3.yB 6 (some (.array .byte)))) (wks q5 (.initialized Cmp3.yN.cls :: Cmp3.site))
  have q3 : ∀ w ∈ Cmp3.tab :: CodL.tab :: words, w.before a s = true := fun w hw => (List.mem_cons.mp hw).elim (fun e => e ▸ h3) fun hw => (List.mem_cons.mp hw).elim (fun e => e ▸ hc) (h w)
  have h4 : New4.tab.before a s = true := unparts (wk q3 (.code New4.yN New4.yB 6 none)) (wks q3 (.initialized New4.yN.cls :: New4.site))
  have q4 : ∀ w ∈ New4.tab :: words, w.before a s = true := fun w hw => (List.mem_cons.mp hw).elim (fun e => e ▸ h4) (h w)
  exact unparts (wk q4 (.code New1.yN New1.yB 2 none)) (wks q4 (.initialized New1.yN.cls :: New1.site))
/-- the words ride from the start Z to the walk's own state -/
theorem moved {Z s : State} {a0 args : Array Value} (hZ : Z.Warmed39 s.vm) (hw : ∀ d ∈ words, d.before a0 Z = true) : ∀ d ∈ words, d.before args s = true := fun d hd => by
  have q := hw d hd
  have t : ∀ d ∈ words, d = .arrayClass .byte ∨ (d.onTables && d.keepsFace) = true := by decide +kernel
  rcases t d hd with rfl | t
  · exact RoadKit.mvA hZ q
  · exact RoadKit.mv hZ q t
/-- WHAT COMES BACK, over the tables of the start Z: h the heap at the call, h' behind it -/
def Q (Z : State) (x : Addr) (A : Cell) (h : Heap) (v : Option Value) (h' : Heap) (L : List Loc) : Prop := v = none ∧ (∀ y ∈ L, y.base = x) ∧ RoadKit.Keep h h' [x] ∧ h'.size = h.size + 1 ∧ RoadKit.Exa Z h' x ST ∧ RoadKit.Fld Z h' x ST "value" "[B" (.ref h.size) ∧ RoadKit.Fld Z h' x ST "coder" "B" (.int 0) ∧
  (∃ V : Cell, RoadKit.Arr Z h' h.size V .byte ∧ V.vm = .none ∧ Z.vm.findClass "[B" = some V.cls ∧ V.slots.size = A.slots.size ∧ ∀ j, j < A.slots.size → V.slots[j]? = some (.int (lo8 (cv A j)))) ∧
  ∀ (O n d : String) (w : Value), RoadKit.Fld Z h x O n d w → RoadKit.slotOf Z O n d ≠ RoadKit.slotOf Z ST "value" "[B" → RoadKit.slotOf Z O n d ≠ RoadKit.slotOf Z ST "coder" "B" → RoadKit.Fld Z h' x O n d w
/-- **new String(chars) AT A CALL, IN THE ROAD'S FORM**: for specialBack behind newO: x the fresh String, b the char[] with the cell A -/
theorem back {p : Program} {l : Launch} {e : Env} {R : Room} {s : State} {args : Array Value} {below : List Frame} {len W : Nat} {Z : State} {a0 : Array Value} {h : Heap} (hZ : Z.Warmed39 s.vm) (hw : ∀ d ∈ words, d.before a0 Z = true) {kI : Nat} (wi : (Jvm.Cond.instantiable ST kI).before a0 Z = true)
    {x b : Addr} {A : Cell} {z : Int32} {v0 c0 : Value} (E : RoadKit.Exa Z h x ST) (V : RoadKit.Fld Z h x ST "value" "[B" v0) (C : RoadKit.Fld Z h x ST "coder" "B" c0) (K : RoadKit.Arr Z h b A .char) (hty : Typed .char A) (S : RoadKit.Sta Z h ST "COMPACT_STRINGS" "Z" (.int z)) (hz : ¬ z = 0)
    (l0 : 0 < A.slots.size) (l2 : A.slots.size ≤ 536870912) (hp : ∀ i, i < A.slots.size → ¬ 255 < cv A i) (hfr : 4 ≤ R.frames) (hlo : W + 65 ≤ R.locals) :
    Back l R p e below s args New1.yN len W (fun P a => a = #[.ref x, .ref b] ∧ P.U.heap = h ∧ P.cells + 1 ≤ R.cells ∧ P.slots + A.slots.size ≤ R.slots)
      (fun P _ v B => ∃ L, Q Z x A h v B.U.heap L ∧ B.locs = P.locs ++ L ∧ B.cells = P.cells + 1 ∧ B.slots = P.slots + A.slots.size) := by
  intro m meth c P g ig mk a X hg hsize hdg hW hn hp'
  obtain ⟨rfl, rfl, r1, r2⟩ := hp'
  have al : Z.vm.Alike P.U.vm := hZ.alike.trans X.warmed.alike
  obtain ⟨D, cfV, kV, iV, fV, hD, gV, stV, knV, obV, asV, slV⟩ := id V
  obtain ⟨D', cfC, kC, iC, fC, hD', gC, stC, -, -, asC, slC⟩ := id C
  cases hD.symm.trans hD'
  obtain ⟨D2, kD, e1, e2, e3, e4, e5⟩ := id E
  cases hD.symm.trans e1
  obtain ⟨c2, k2, i1, i2, i3, -⟩ := Cond.instantiable_spec wi
  cases e2.symm.trans i1
  cases e3.symm.trans i2
  obtain ⟨kU, u1, u2⟩ := al.2.2 _ _ e3
  have hB : Blank ST x D P.U := ⟨hD, ⟨knV, fun q hq => by rw [hq] at obV; cases obV⟩, by rw [al.findClass]; exact e2, kU, u1, by rw [u2]; exact i3, by rw [u2]; exact e5 i3⟩
  have F1 : Found ST "value" "[B" fV P.U := ⟨SBG.found_only al ⟨cfV, kV, iV, gV⟩, stV⟩
  have F2 : Found ST "coder" "B" fC P.U := ⟨SBG.found_only al ⟨cfC, kC, iC, gC⟩, stC⟩
  have hA : Ch b A P.U := ⟨⟨K.1, State.isArrayOf_alike al K.2.1, K.2.2, by omega⟩, hty⟩
  have hS : StaticIs P.U ST "COMPACT_STRINGS" "Z" (.int z) := by
    obtain ⟨cfS, iS, kS, fS, st, cS, t1, t2, t3, t4, t5, t6, t7⟩ := S
    exact StaticIs.there (s := { Z with heap := P.U.heap }) ⟨cfS, iS, kS, fS, st, cS, t1, t2, t3, t4, t5, (fun q => by rw [q] at t6; cases t6), t7⟩ al rfl
  obtain ⟨v, B, X', ⟨⟨hv, E', V', q1, q2, q3, q4, q5, q6, q7, q8, q9, q10, q11⟩, hl, hc, hs⟩, st⟩ := New1.pays x D fV fC b A z (tab_of (moved hZ hw)) hfr hlo m meth c P g ig mk _ X hg hsize hdg hW hn ⟨r1, r2, rfl, hB, F1, F2, hA, hS, hz, l0, l2, hp⟩
  have al' : Z.vm.Alike B.U.vm := hZ.alike.trans X'.warmed.alike
  have hsz : E'.slots.size = D.slots.size := by
    obtain ⟨-, -, -, kB, w1, w2, w3⟩ := q1
    obtain ⟨kB', y1, y2⟩ := al'.2.2 _ _ e3
    rw [q2.2.1] at w1
    cases w1.symm.trans y1
    rw [w3, e5 i3, y2]
  refine ⟨v, B, X', ⟨_, ⟨hv, ?_, ⟨by omega, fun y cy hy hn' => q10 y cy (by simpa using hn') hy, fun y cy hy => ?_⟩, q11, ⟨E', _, q1.1, by rw [q2.2.1]; exact e2, by rw [q2.2.1]; exact e3, by rw [q2.1]; exact obV, fun _ => by rw [hsz]; exact e5 i3⟩,
    ⟨E', cfV, kV, iV, fV, q1.1, gV, stV, by rw [q2.1]; exact knV, by rw [q2.1]; exact obV, by rw [q2.2.1]; exact asV, q3⟩, ⟨E', cfC, kC, iC, fC, q1.1, gC, stC, by rw [q2.1]; exact knV, by rw [q2.1]; exact obV, by rw [q2.2.1]; exact asC, q4⟩,
    ⟨V', ⟨q5.1, State.isArrayOf_alike al'.symm q5.2.1, q5.2.2.1⟩, q6, by rw [← al'.findClass]; exact q7, q8, fun j hj => by have := q9 j hj; rwa [Nat.zero_add] at this⟩, fun O n d w F n1 n2 => ?_⟩, hl, hc, hs⟩, st⟩
  · intro y hy
    simp only [List.mem_cons, List.not_mem_nil, or_false] at hy
    rcases hy with rfl | rfl <;> rfl
  · by_cases q : y = x
    · subst q
      cases hD.symm.trans hy
      exact ⟨E', q1.1, q2.2.1, q2.1, hsz⟩
    · exact ⟨cy, q10 y cy q hy, rfl, rfl, rfl⟩
  · obtain ⟨D3, cf, k, i, f, g1, g2, g3, g4, g5, g6, g7⟩ := F
    cases hD.symm.trans g1
    simp only [RoadKit.slotOf, g2, gV, gC, Option.map_some, Option.getD_some] at n1 n2
    exact ⟨E', cf, k, i, f, q1.1, g2, g3, by rw [q2.1]; exact g4, by rw [q2.1]; exact g5, by rw [q2.2.1]; exact g6, by rw [q2.2.2 f.slot (by simp [n1, n2])]; exact g7⟩
end StrChars.Road
namespace StrChars.Road
open Jvm Sem ClassFile Op Lib Jvm.Stand Jvm.Free Jvm.Free.XT
/-- WHAT COMES BACK, the byte[] as a list of values -/
def QA (Z : State) (x : Addr) (zn : Int32) (cs : List Int32) (h : Heap) (v : Option Value) (h' : Heap) (L : List Loc) : Prop := v = none ∧ (∀ y ∈ L, y.base = x) ∧ RoadKit.Keep h h' [x] ∧ h'.size = h.size + 1 ∧ RoadKit.Exa Z h' x ST ∧ RoadKit.Fld Z h' x ST "value" "[B" (.ref h.size) ∧ RoadKit.Fld Z h' x ST "coder" "B" (.int 0) ∧
  (∃ kb, Z.vm.findClass "[B" = some kb ∧ RoadKit.Arv Z h' h.size kb .byte zn (cs.map fun c => .int (lo8 c)) (.int 0)) ∧
  ∀ (O n d : String) (w : Value), RoadKit.Fld Z h x O n d w → RoadKit.slotOf Z O n d ≠ RoadKit.slotOf Z ST "value" "[B" → RoadKit.slotOf Z O n d ≠ RoadKit.slotOf Z ST "coder" "B" → RoadKit.Fld Z h' x O n d w
/-- **new String(chars) AT A CALL, THE ARRAYS AS LISTS**: the char[] at b holds cs, not empty, no char above 255 -/
theorem backArv {p : Program} {l : Launch} {e : Env} {R : Room} {s : State} {args : Array Value} {below : List Frame} {len W : Nat} {Z : State} {a0 : Array Value} {h : Heap} (hZ : Z.Warmed39 s.vm) (hw : ∀ d ∈ words, d.before a0 Z = true) {kI : Nat} (wi : (Jvm.Cond.instantiable ST kI).before a0 Z = true)
    {x b : Addr} {k : ClassId} {zn z : Int32} {cs : List Int32} {dv v0 c0 : Value} (E : RoadKit.Exa Z h x ST) (V : RoadKit.Fld Z h x ST "value" "[B" v0) (C : RoadKit.Fld Z h x ST "coder" "B" c0) (K : RoadKit.Arv Z h b k .char zn (cs.map Value.int) dv) (S : RoadKit.Sta Z h ST "COMPACT_STRINGS" "Z" (.int z)) (hz : ¬ z = 0)
    (hlen : zn.toNatClampNeg = cs.length) (h0 : 0 < cs.length) (hbig : cs.length ≤ 536870912) (hall : ∀ c ∈ cs, ¬ 255 < c) (hfr : 4 ≤ R.frames) (hlo : W + 65 ≤ R.locals) :
    Back l R p e below s args New1.yN len W (fun P a => a = #[.ref x, .ref b] ∧ P.U.heap = h ∧ P.cells + 1 ≤ R.cells ∧ P.slots + cs.length ≤ R.slots)
      (fun P _ v B => ∃ L, QA Z x zn cs h v B.U.heap L ∧ B.locs = P.locs ++ L ∧ B.cells = P.cells + 1 ∧ B.slots = P.slots + cs.length) := by
  obtain ⟨A, K1, K2, K3, K4, K5, K6⟩ := K
  have e : A.slots.size = cs.length := K3.trans hlen
  have hat : ∀ (i : Nat) (hi : i < cs.length), A.slots[i]? = some (.int cs[i]) := fun i hi => by rw [K5 i (by omega)]; simp [List.getD_eq_getElem?_getD, hi]
  have hcv : ∀ (i : Nat) (hi : i < cs.length), cv A i = cs[i] := fun i hi => by unfold cv; rw [hat i hi]
  have hty : Typed .char A := fun i v hv => by
    have hi : i < A.slots.size := (Array.getElem?_eq_some_iff.mp hv).1
    have q := K5 i hi
    rw [hv] at q
    rw [Option.some.inj q]
    exact K6 i hi
  refine Back.mono (back hZ hw wi E V C K1 hty S hz (by omega) (by omega) (fun i hi => by rw [hcv i (by omega)]; exact hall _ (List.getElem_mem _)) hfr hlo) (fun P a hp => ⟨hp.1, hp.2.1, hp.2.2.1, by rw [e]; exact hp.2.2.2⟩) (fun P a v B hp hq => ?_)
  obtain ⟨L, ⟨q1, q2, q3, q4, q5, q6, q7, ⟨V', v1, v2, v3, v4, v5⟩, q9⟩, hl, hc, hs⟩ := hq
  refine ⟨L, ⟨q1, q2, q3, q4, q5, q6, q7, ⟨V'.cls, v3, V', v1, rfl, by rw [v4, e, hlen], K4, fun i hi => ?_, fun i hi => ?_⟩, q9⟩, hl, hc, by rw [hs, e]⟩
  · have hi' : i < cs.length := by omega
    rw [v5 i (by omega), hcv i hi']; simp [List.getD_eq_getElem?_getD, hi']
  · have hi' : i < cs.length := by omega
    simp only [List.getD_eq_getElem?_getD, List.getElem?_map, List.getElem?_eq_getElem hi', Option.map_some, Option.getD_some]
    exact fits_lo8 _
end StrChars.Road
namespace StrChars.Road
open Jvm Sem ClassFile Op Lib Jvm.Stand Jvm.Free Jvm.Free.XT
/-- WHAT COMES BACK, in the writer's own shape -/
def QV (Z : State) (x : Addr) (N : Int32) (bs : List Int32) (h : Heap) (n0 : Nat) (v : Option Value) (h' : Heap) (L : List Loc) : Prop := v = none ∧ RoadKit.Fr n0 L ∧ RoadKit.Keep h h' [x] ∧ RoadKit.Exa Z h' x ST ∧ RoadKit.Fld Z h' x ST "coder" "B" (.int 0) ∧
  ∃ (t : Addr) (kb : ClassId), n0 ≤ t ∧ h.size ≤ t ∧ ¬ t = x ∧ RoadKit.Fld Z h' x ST "value" "[B" (.ref t) ∧ RoadKit.Arv Z h' t kb .byte N (bs.map Value.int) (.int 0)
/-- **new String(chars) AT A CALL, FOR THE WRITER**: a char[] of n known ints, each 0 to 255 -/
theorem backV {p : Program} {l : Launch} {e : Env} {R : Room} {s : State} {args : Array Value} {below : List Frame} {len W : Nat} {Z : State} {a0 : Array Value} {h : Heap} (hZ : Z.Warmed39 s.vm) (hw : ∀ d ∈ words, d.before a0 Z = true) {kI : Nat} (wi : (Jvm.Cond.instantiable ST kI).before a0 Z = true)
    {x b : Addr} {kC : ClassId} {cs bs : List Int32} {d v0 c0 : Value} {z N : Int32} {n n0 : Nat} (hx0 : n0 ≤ x) (hh0 : n0 ≤ h.size) (E : RoadKit.Exa Z h x ST) (V : RoadKit.Fld Z h x ST "value" "[B" v0) (C : RoadKit.Fld Z h x ST "coder" "B" c0) (K : RoadKit.Arv Z h b kC .char N (cs.map Value.int) d) (S : RoadKit.Sta Z h ST "COMPACT_STRINGS" "Z" (.int z)) (hz : ¬ z = 0)
    (hn : cs.length = n) (hN : N = Int32.ofNat n) (l0 : 0 < n) (l2 : n ≤ 4000) (hp : ∀ c ∈ cs, ¬ c < 0 ∧ ¬ (255 : Int32) < c) (hb : bs = cs.map (fun c => c.toInt8.toInt32)) (hfr : 4 ≤ R.frames) (hlo : W + 65 ≤ R.locals) :
    Back l R p e below s args (⟨"java/lang/String", "<init>", "([C)V"⟩ : MethodName) len W (fun P a => a = #[.ref x, .ref b] ∧ P.U.heap = h ∧ P.cells + 1 ≤ R.cells ∧ P.slots + n ≤ R.slots)
      (fun P _ v B => ∃ L, QV Z x N bs h n0 v B.U.heap L ∧ B.locs = P.locs ++ L ∧ B.cells = P.cells + 1 ∧ B.slots = P.slots + n) := by
  subst hn hN hb
  refine Back.mono (backArv hZ hw wi E V C K S hz (n32 (by omega)) l0 (by omega) (fun c hc => (hp c hc).2) hfr hlo) (fun P a hp => hp) (fun P a v B hp hq => ?_)
  obtain ⟨L, ⟨q1, q2, q3, q4, q5, q6, q7, ⟨kb, v1, v2⟩, q9⟩, hl, hc, hs⟩ := hq
  exact ⟨L, ⟨q1, fun y hy => by rw [q2 y hy]; exact hx0, q3, q5, q7, h.size, kb, hh0, Nat.le_refl _, Nat.ne_of_gt E.lt, q6, by rw [List.map_map]; exact v2⟩, hl, hc, hs⟩
end StrChars.Road
end Jvm.Pilot.@@N@@
namespace Jvm.Pilot.@@N@@
open Jvm Jvm.ClassFile Sem Op Lib Jvm.Free Jvm.Stand Jvm.LawKit Jvm.RoadKit Bundle Jvm.OwK Jvm.Pilot.@@N@@.Jvm.D
theorem wd {a0 : Array Value} {Z : State} (hw : ∀ d ∈ tables_1, d.before a0 Z = true) (k : Nat) {d : Jvm.Cond} (h : tables_1[k]? = some d) : d.before a0 Z = true := hw _ (List.mem_of_getElem? h)
/-- the statics on which the String laws rest -/
def Gl (Z : State) : Prop := (∃ z : Int32, Sta Z Z.heap "java/lang/String" "COMPACT_STRINGS" "Z" (.int z) ∧ ¬ z = 0) ∧ ∃ v : Value, Sta Z Z.heap "jdk/internal/util/Preconditions" "SIOOBE_FORMATTER" "Ljava/util/function/BiFunction;" v ∧ v.isRef = true
section StrCalls
variable {nw : Prop} {EL : List (String × Nat)} {n0 : Nat} {Z : State} {a0 : Array Value} {p : Program} {l : Launch} {e : Env} {R : Room} {s : State} {args : Array Value} {below : List Frame} {h : Heap} {xs : List Addr} {wt : Nat}
theorem newStr (hE : EW Z a0 EL) (hw : ∀ d ∈ tables_1, d.before a0 Z = true) (G : Gl Z) {x b : Addr} {ka : ClassId} {cs : List Int32} (N : NewS Z h x) (A : CArr Z h b ka cs) (hm : n0 ≤ x ∧ x < h.size) (hx : x ∈ xs) (hp : ∀ c ∈ cs, ¬ c < 0 ∧ ¬ (255 : Int32) < c) (l0 : 0 < cs.length) (l2 : cs.length ≤ 4000) (hfr : 4 ≤ R.frames) (hlo : wt + 65 ≤ R.locals) :
    Call nw EL n0 Z xs l R p e below s args (⟨"java/lang/String", "<init>", "([C)V"⟩ : MethodName) 3 wt #[.ref x, .ref b] h 1 cs.length (RN fun h' => Keep h h' [x] ∧ Str Z h' x cs) := by
  obtain ⟨⟨z, O2, P5⟩, -⟩ := G
  have hws : ∀ d ∈ StrChars.Road.words, d.before a0 Z = true := fun d hd => hw d ((by decide +kernel : ∀ d ∈ StrChars.Road.words, d ∈ tables_1) d hd)
  refine Call.of_back hE (Qb := fun v h' Lc => StrChars.Road.QV Z x (Int32.ofNat cs.length) (cs.map fun c => c.toInt8.toInt32) h n0 v h' Lc) (fun vm0 hZ hO => StrChars.Road.backV (s := s.setVm vm0) hZ hws (kI := 4) (wd hw 5 rfl) (cs := cs) (n := cs.length) hm.1 (old_le hO) N.1 N.2.1 N.2.2 A (O2.ext hO.2) P5 rfl rfl l0 l2 hp rfl hfr hlo) (fun v h' Lc hO q => ?_)
  obtain ⟨q1, q2, q3, q4, q5, t, kb, t1, t2, t3, q6, q7⟩ := q
  exact ⟨⟨q1, q3, q4, q5, ⟨t, kb, q6, q7⟩, hp, l2⟩, q2, [x], q3, by simp [hx]⟩
end StrCalls
def EL0 : List (String × Nat) := [("java/lang/String", 7)]
abbrev NW : Prop := False
theorem wS {a0 : Array Value} {Z : State} (hw : ∀ d ∈ tables_1, d.before a0 Z = true) : ∀ a ∈ Bundle.stringAtoms, a.before a0 Z = true := fun d hd => hw d ((by decide +kernel : ∀ d ∈ Bundle.stringAtoms, d ∈ tables_1) d hd)
theorem pn_0 : plainName "java/lang/String" = true := by first | (simp [plainName, overriddenIn]; done) | decide +kernel
theorem d_jdk_42_method_149_0 : Dec jdk_42_method_149_code 0 (.aload_n 0) 1 1 := ⟨by decide +kernel, rfl⟩
theorem d_jdk_42_method_149_1 : Dec jdk_42_method_149_code 1 (.invokespecial 1) 3 4 := ⟨by decide +kernel, rfl⟩
theorem d_jdk_42_method_149_4 : Dec jdk_42_method_149_code 4 (.iload_n 3) 1 5 := ⟨by decide +kernel, rfl⟩
theorem d_jdk_42_method_149_5 : Dec jdk_42_method_149_code 5 (.ifCond .ne 22) 3 8 := ⟨by decide +kernel, rfl⟩
theorem d_jdk_42_method_149_8 : Dec jdk_42_method_149_code 8 (.aload_n 0) 1 9 := ⟨by decide +kernel, rfl⟩
theorem d_jdk_42_method_149_9 : Dec jdk_42_method_149_code 9 (.ldc 7) 2 11 := ⟨by decide +kernel, rfl⟩
theorem d_jdk_42_method_149_11 : Dec jdk_42_method_149_code 11 (.getfield 9) 3 14 := ⟨by decide +kernel, rfl⟩
theorem d_jdk_42_method_149_14 : Dec jdk_42_method_149_code 14 (.putfield 9) 3 17 := ⟨by decide +kernel, rfl⟩
theorem d_jdk_42_method_149_17 : Dec jdk_42_method_149_code 17 (.aload_n 0) 1 18 := ⟨by decide +kernel, rfl⟩
theorem d_jdk_42_method_149_18 : Dec jdk_42_method_149_code 18 (.ldc 7) 2 20 := ⟨by decide +kernel, rfl⟩
theorem d_jdk_42_method_149_20 : Dec jdk_42_method_149_code 20 (.getfield 15) 3 23 := ⟨by decide +kernel, rfl⟩
theorem d_jdk_42_method_149_23 : Dec jdk_42_method_149_code 23 (.putfield 15) 3 26 := ⟨by decide +kernel, rfl⟩
theorem d_jdk_42_method_149_26 : Dec jdk_42_method_149_code 26 (.return_) 1 27 := ⟨by decide +kernel, rfl⟩
set_option maxRecDepth 65536 in
set_option maxHeartbeats 40000000 in
theorem c_s149 (l : Launch) (Z : State) (a0 : Array Value) (hw : ∀ d ∈ tables_1, d.before a0 Z = true) (hE : EW Z a0 EL0) {n0 : Nat} {h0 : Heap} (hO : Old Z n0 h0) {x b : Addr} (hx : n0 ≤ x) (N_x : NewS Z h0 x) :
    Ctr NW EL0 n0 Z [x] l (⟨"java/lang/String", "<init>", "([CIILjava/lang/Void;)V"⟩ : MethodName) jdk_42_method_149_code 6 none ({ frames := 1, cells := 4, slots := 8, locals := 17 } : Room) #[.ref x, .ref b, .int 0, .int 0, .null] h0 (RN fun h => Keep h0 h [x] ∧ Str Z h x []) := by
  refine Ctr.body pn_0 hE hO (fun y q => by cases List.mem_singleton.mp q; exact ⟨hx, N_x.1.lt⟩) (L0 := #[.val (.ref x), .val (.ref b), .val (.int (0 : Int32)), .val (.int (0 : Int32)), .val .null, .unset]) (fun m => by first | (simp [entryFrame, mkF, argsToLocals, Value.category, maxLocals]; done) | rfl) ?_
  intro p e s m below meth c T0 W0
  refine Go.aload_n W0.cx d_jdk_42_method_149_0 (v := (.ref x)) rfl rfl ?_
  refine Go.initObj W0 d_jdk_42_method_149_1 (wd hw 15 rfl) (wd hw 16 rfl) (wd hw 17 rfl) rfl (by decide) (wt := 0) rfl (by decide) ?_
  intro T1 W1
  refine Go.iload_n W1.cx d_jdk_42_method_149_4 (v := (0 : Int32)) rfl ?_
  refine Go.ifne W1.cx d_jdk_42_method_149_5 (by decide) (q := 27) rfl (fun hh => (by first | exact absurd (rfl : (0 : Int32) = 0) hh | exact absurd hh (rfl : (0 : Int32) = 0))) (fun _ => ?_)
  refine Go.aload_n W1.cx d_jdk_42_method_149_8 (v := (.ref x)) rfl rfl ?_
  refine Go.ldcS W1 (fun q => q) d_jdk_42_method_149_9 (wd hw 18 rfl) (wS hw) (by decide) (cs := []) ⟨by decide, by decide +kernel⟩ (by decide) (by decide) (nn := 0) (by decide) (by decide) (cells' := 2) (slots' := 4) rfl rfl (by decide) (by decide) ?_
  intro T2 h2 l2 b2 kb2 W2 E2 A2 C2 V2 B2 X2 S2
  have N2 := N_x.ext E2
  refine Go.getf W2 d_jdk_42_method_149_11 (wd hw 24 rfl) Via.refl V2 ?_
  intro T3 W3
  refine Go.putf W3 d_jdk_42_method_149_14 (wd hw 24 rfl) Via.refl N2.2.1 N2.1 (Or.inr ⟨(wd hw 20 rfl), rfl, rfl⟩) (wd hw 5 rfl) (t := (.array .byte)) (by decide) (v' := (.ref b2)) rfl rfl (by simp) ?_
  intro T4 h4 W4 R4
  have B4 := B2.other R4 (Ne.symm (X2 x (by simp)).2)
  have F4 := N2.2.1.same R4
  have M4 := N2.1.wr R4
  have C4 := N2.2.2.other R4 (Or.inr (slot_ne (Or.inr (wd hw 21 rfl)) (Or.inr (wd hw 20 rfl)) (by decide) (t := .byte) (t' := .array .byte) (by decide) (by decide)))
  have Q4 : Keep h0 h4 [x] := ((Keep.refl h0 [x]).ext E2).wr R4 (Or.inl (by simp))
  refine Go.aload_n W4.cx d_jdk_42_method_149_17 (v := (.ref x)) rfl rfl ?_
  refine Go.ldcS W4 (fun q => q) d_jdk_42_method_149_18 (wd hw 18 rfl) (wS hw) (by decide) (cs := []) ⟨by decide, by decide +kernel⟩ (by decide) (by decide) (nn := 0) (by decide) (by decide) (cells' := 4) (slots' := 8) rfl rfl (by decide) (by decide) ?_
  intro T5 h5 l5 b5 kb5 W5 E5 A5 C5 V5 B5 X5 S5
  refine Go.getf W5 d_jdk_42_method_149_20 (wd hw 25 rfl) Via.refl C5 ?_
  intro T6 W6
  refine Go.putf W6 d_jdk_42_method_149_23 (wd hw 25 rfl) Via.refl (C4.ext E5) (M4.ext E5) (Or.inr ⟨(wd hw 21 rfl), rfl, rfl⟩) (wd hw 5 rfl) (t := .byte) (by decide) (v' := (.int 0)) rfl rfl (by simp) ?_
  intro T7 h7 W7 R7
  have F7 := (F4.ext E5).other R7 (Or.inr (slot_ne (Or.inr (wd hw 20 rfl)) (Or.inr (wd hw 21 rfl)) (by decide) (t := .array .byte) (t' := .byte) (by decide) (by decide)))
  have B7 := (B4.ext E5).other R7 (Ne.symm (X2 x (by simp)).2)
  exact Go.vret W7 d_jdk_42_method_149_26 (by decide) (by decide) ⟨rfl, (Q4.ext E5).wr R7 (Or.inl (by simp)), (M4.ext E5).wr R7, (C4.ext E5).same R7, ⟨b2, kb2, F7, B7⟩, all_nil, by decide⟩
theorem d_jdk_42_method_3_0 : Dec jdk_42_method_3_code 0 (.aload_n 0) 1 1 := ⟨by decide +kernel, rfl⟩
theorem d_jdk_42_method_3_1 : Dec jdk_42_method_3_code 1 (.aload_n 1) 1 2 := ⟨by decide +kernel, rfl⟩
theorem d_jdk_42_method_3_2 : Dec jdk_42_method_3_code 2 (.iconst 0) 1 3 := ⟨by decide +kernel, rfl⟩
theorem d_jdk_42_method_3_3 : Dec jdk_42_method_3_code 3 (.aload_n 1) 1 4 := ⟨by decide +kernel, rfl⟩
theorem d_jdk_42_method_3_4 : Dec jdk_42_method_3_code 4 (.arraylength) 1 5 := ⟨by decide +kernel, rfl⟩
theorem d_jdk_42_method_3_5 : Dec jdk_42_method_3_code 5 (.aconst_null) 1 6 := ⟨by decide +kernel, rfl⟩
theorem d_jdk_42_method_3_6 : Dec jdk_42_method_3_code 6 (.invokespecial 27) 3 9 := ⟨by decide +kernel, rfl⟩
theorem pd_0 : parseMethodDescriptor "([CIILjava/lang/Void;)V" = some ⟨[(.array .char), .int, .int, (.object "java/lang/Void")], none⟩ := by decide +kernel
theorem d_jdk_42_method_3_9 : Dec jdk_42_method_3_code 9 (.return_) 1 10 := ⟨by decide +kernel, rfl⟩
set_option maxRecDepth 65536 in
set_option maxHeartbeats 40000000 in
theorem c_s3 (l : Launch) (Z : State) (a0 : Array Value) (hw : ∀ d ∈ tables_1, d.before a0 Z = true) (hE : EW Z a0 EL0) {n0 : Nat} {h0 : Heap} (hO : Old Z n0 h0) {x b : Addr} {ka : ClassId} (hx : n0 ≤ x) (N_x : NewS Z h0 x) (A : CArr Z h0 b ka []) :
    Ctr NW EL0 n0 Z [x] l (⟨"java/lang/String", "<init>", "([C)V"⟩ : MethodName) jdk_42_method_3_code 2 none ({ frames := 2, cells := 4, slots := 8, locals := 34 } : Room) #[.ref x, .ref b] h0 (RN fun h => Keep h0 h [x] ∧ Str Z h x []) := by
  refine Ctr.body pn_0 hE hO (fun y q => by cases List.mem_singleton.mp q; exact ⟨hx, N_x.1.lt⟩) (L0 := #[.val (.ref x), .val (.ref b)]) (fun m => by first | (simp [entryFrame, mkF, argsToLocals, Value.category, maxLocals]; done) | rfl) ?_
  intro p e s m below meth c T0 W0
  refine Go.aload_n W0.cx d_jdk_42_method_3_0 (v := (.ref x)) rfl rfl ?_
  refine Go.aload_n W0.cx d_jdk_42_method_3_1 (v := (.ref b)) rfl rfl ?_
  refine Go.iconst W0.cx d_jdk_42_method_3_2 (z := (0 : Int32)) rfl ?_
  refine Go.aload_n W0.cx d_jdk_42_method_3_3 (v := (.ref b)) rfl rfl ?_
  refine Go.alen W0 d_jdk_42_method_3_4 A ?_
  refine Go.aconst_null W0.cx d_jdk_42_method_3_5 ?_
  refine Go.invi W0 (Ctr.call (wt := 0) (c_s149 l Z a0 hw hE hO hx N_x) W0.ew (wd hw 14 rfl) (wd hw 6 rfl) (by simp) (by decide) (by decide)) d_jdk_42_method_3_6 rfl (wd hw 11 rfl) (wd hw 12 rfl) (wd hw 14 rfl) (by decide) pd_0 rfl rfl (rest := []) rfl (Nat.le_of_eq rfl) (cells' := 4) (slots' := 8) rfl rfl (by decide) (by decide) ?_
  rintro T1 h1 W1 z1 ⟨K1, S1⟩
  exact Go.vret W1 d_jdk_42_method_3_9 (by decide) (by decide) ⟨rfl, K1, S1⟩
def NS (Z : State) (h : Heap) (v : Value) : Prop := v = .null ∨ ∃ r, v = .ref r ∧ ∃ cs, Str Z h r cs
theorem NS.ext {Z : State} {h h' : Heap} {v : Value} (N : NS Z h v) (E : Ext h h') : NS Z h' v := by
  rcases N with rfl | ⟨r, rfl, cs, S⟩
  · exact Or.inl rfl
  · exact Or.inr ⟨r, rfl, cs, S.ext E⟩
theorem NS.or {Z : State} {h : Heap} {v : Value} (N : NS Z h v) : v = .null ∨ ∃ r, v = .ref r := by
  rcases N with rfl | ⟨r, rfl, -⟩
  · exact Or.inl rfl
  · exact Or.inr ⟨r, rfl⟩
theorem NS.is {Z : State} {h : Heap} {v : Value} (N : NS Z h v) : v.isRef = true := (ref_cat N.or).1
theorem or_is {v : Value} (N : v = .null ∨ ∃ r, v = .ref r) : v.isRef = true := (ref_cat N).1
theorem or_nf {v : Value} (N : v = .null ∨ ∃ r, v = .ref r) (t : String) : narrow (.object t) v = v ∧ fits (.object t) v = true := by rcases N with rfl | ⟨r, rfl⟩ <;> exact ⟨rfl, rfl⟩
/-- an ActionMessage -/
def AMs (Z : State) (h : Heap) (a : Addr) (kv : Value) (arr : Addr) (rs : Int32) (bv : Value) : Prop := Exa Z h a "com/example/trestle/trestle/action/ActionMessage" ∧ Fld Z h a "com/example/trestle/trestle/action/ActionMessage" "key" "Ljava/lang/String;" kv ∧ Fld Z h a "com/example/trestle/trestle/action/ActionMessage" "values" "[Ljava/lang/Object;" (.ref arr) ∧ Fld Z h a "com/example/trestle/trestle/action/ActionMessage" "resource" "Z" (.int rs) ∧ Fld Z h a "com/example/trestle/trestle/action/ActionMessage" "bundle" "Ljava/lang/String;" bv ∧ OArr Z h arr "java/lang/Object" "[Ljava/lang/Object;"
theorem AMs.ext {Z : State} {h h' : Heap} {a arr : Addr} {kv bv : Value} {rs : Int32} (M : AMs Z h a kv arr rs bv) (E : Ext h h') : AMs Z h' a kv arr rs bv := ⟨M.1.ext E, M.2.1.ext E, M.2.2.1.ext E, M.2.2.2.1.ext E, M.2.2.2.2.1.ext E, M.2.2.2.2.2.ext E⟩
def B01 (b : Int32) : Prop := narrow .boolean (.int b) = .int b ∧ fits .boolean (.int b) = true
theorem pn_1 : plainName "com/example/trestle/trestle/action/ActionMessageWithBundlePinLaw" = true := by first | (simp [plainName, overriddenIn]; done) | decide +kernel
theorem d_method_4_0 : Dec method_4_code 0 (.iload_n 0) 1 1 := ⟨by decide +kernel, rfl⟩
theorem d_method_4_1 : Dec method_4_code 1 (.iconst 3) 1 2 := ⟨by decide +kernel, rfl⟩
theorem d_method_4_2 : Dec method_4_code 2 (.iand) 1 3 := ⟨by decide +kernel, rfl⟩
theorem d_method_4_3 : Dec method_4_code 3 (.istore_n 1) 1 4 := ⟨by decide +kernel, rfl⟩
theorem d_method_4_4 : Dec method_4_code 4 (.iload_n 0) 1 5 := ⟨by decide +kernel, rfl⟩
theorem d_method_4_5 : Dec method_4_code 5 (.iconst 2) 1 6 := ⟨by decide +kernel, rfl⟩
theorem d_method_4_6 : Dec method_4_code 6 (.iushr) 1 7 := ⟨by decide +kernel, rfl⟩
theorem d_method_4_7 : Dec method_4_code 7 (.sipush 255) 3 10 := ⟨by decide +kernel, rfl⟩
theorem d_method_4_10 : Dec method_4_code 10 (.iand) 1 11 := ⟨by decide +kernel, rfl⟩
theorem d_method_4_11 : Dec method_4_code 11 (.i2c) 1 12 := ⟨by decide +kernel, rfl⟩
theorem d_method_4_12 : Dec method_4_code 12 (.istore_n 2) 1 13 := ⟨by decide +kernel, rfl⟩
theorem d_method_4_13 : Dec method_4_code 13 (.iload_n 0) 1 14 := ⟨by decide +kernel, rfl⟩
theorem d_method_4_14 : Dec method_4_code 14 (.bipush 10) 2 16 := ⟨by decide +kernel, rfl⟩
theorem d_method_4_16 : Dec method_4_code 16 (.iushr) 1 17 := ⟨by decide +kernel, rfl⟩
theorem d_method_4_17 : Dec method_4_code 17 (.sipush 255) 3 20 := ⟨by decide +kernel, rfl⟩
theorem d_method_4_20 : Dec method_4_code 20 (.iand) 1 21 := ⟨by decide +kernel, rfl⟩
theorem d_method_4_21 : Dec method_4_code 21 (.i2c) 1 22 := ⟨by decide +kernel, rfl⟩
theorem d_method_4_22 : Dec method_4_code 22 (.istore_n 3) 1 23 := ⟨by decide +kernel, rfl⟩
theorem d_method_4_23 : Dec method_4_code 23 (.iload_n 0) 1 24 := ⟨by decide +kernel, rfl⟩
theorem d_method_4_24 : Dec method_4_code 24 (.bipush 18) 2 26 := ⟨by decide +kernel, rfl⟩
theorem d_method_4_26 : Dec method_4_code 26 (.iushr) 1 27 := ⟨by decide +kernel, rfl⟩
theorem d_method_4_27 : Dec method_4_code 27 (.sipush 255) 3 30 := ⟨by decide +kernel, rfl⟩
theorem d_method_4_30 : Dec method_4_code 30 (.iand) 1 31 := ⟨by decide +kernel, rfl⟩
theorem d_method_4_31 : Dec method_4_code 31 (.i2c) 1 32 := ⟨by decide +kernel, rfl⟩
theorem d_method_4_32 : Dec method_4_code 32 (.istore 4) 2 34 := ⟨by decide +kernel, rfl⟩
theorem d_method_4_34 : Dec method_4_code 34 (.iload_n 1) 1 35 := ⟨by decide +kernel, rfl⟩
theorem d_method_4_35 : Dec method_4_code 35 (.ifCond .ne 14) 3 38 := ⟨by decide +kernel, rfl⟩
theorem d_method_4_49 : Dec method_4_code 49 (.iload_n 1) 1 50 := ⟨by decide +kernel, rfl⟩
theorem d_method_4_50 : Dec method_4_code 50 (.iconst 1) 1 51 := ⟨by decide +kernel, rfl⟩
theorem d_method_4_51 : Dec method_4_code 51 (.if_icmp .ne 18) 3 54 := ⟨by decide +kernel, rfl⟩
theorem d_method_4_69 : Dec method_4_code 69 (.iload_n 1) 1 70 := ⟨by decide +kernel, rfl⟩
theorem d_method_4_70 : Dec method_4_code 70 (.iconst 2) 1 71 := ⟨by decide +kernel, rfl⟩
theorem d_method_4_71 : Dec method_4_code 71 (.if_icmp .ne 22) 3 74 := ⟨by decide +kernel, rfl⟩
theorem d_method_4_93 : Dec method_4_code 93 (.new 42) 3 96 := ⟨by decide +kernel, rfl⟩
theorem d_method_4_96 : Dec method_4_code 96 (.dup) 1 97 := ⟨by decide +kernel, rfl⟩
theorem d_method_4_97 : Dec method_4_code 97 (.iconst 3) 1 98 := ⟨by decide +kernel, rfl⟩
theorem d_method_4_98 : Dec method_4_code 98 (.newarray .char) 2 100 := ⟨by decide +kernel, rfl⟩
theorem d_method_4_100 : Dec method_4_code 100 (.dup) 1 101 := ⟨by decide +kernel, rfl⟩
theorem d_method_4_101 : Dec method_4_code 101 (.iconst 0) 1 102 := ⟨by decide +kernel, rfl⟩
theorem d_method_4_102 : Dec method_4_code 102 (.iload_n 2) 1 103 := ⟨by decide +kernel, rfl⟩
theorem d_method_4_103 : Dec method_4_code 103 (.castore) 1 104 := ⟨by decide +kernel, rfl⟩
theorem d_method_4_104 : Dec method_4_code 104 (.dup) 1 105 := ⟨by decide +kernel, rfl⟩
theorem d_method_4_105 : Dec method_4_code 105 (.iconst 1) 1 106 := ⟨by decide +kernel, rfl⟩
theorem d_method_4_106 : Dec method_4_code 106 (.iload_n 3) 1 107 := ⟨by decide +kernel, rfl⟩
theorem d_method_4_107 : Dec method_4_code 107 (.castore) 1 108 := ⟨by decide +kernel, rfl⟩
theorem d_method_4_108 : Dec method_4_code 108 (.dup) 1 109 := ⟨by decide +kernel, rfl⟩
theorem d_method_4_109 : Dec method_4_code 109 (.iconst 2) 1 110 := ⟨by decide +kernel, rfl⟩
theorem d_method_4_110 : Dec method_4_code 110 (.iload 4) 2 112 := ⟨by decide +kernel, rfl⟩
theorem d_method_4_112 : Dec method_4_code 112 (.castore) 1 113 := ⟨by decide +kernel, rfl⟩
theorem d_method_4_113 : Dec method_4_code 113 (.invokespecial 47) 3 116 := ⟨by decide +kernel, rfl⟩
theorem pd_1 : parseMethodDescriptor "([C)V" = some ⟨[(.array .char)], none⟩ := by decide +kernel
theorem d_method_4_116 : Dec method_4_code 116 (.areturn) 1 117 := ⟨by decide +kernel, rfl⟩
theorem d_method_4_74 : Dec method_4_code 74 (.new 42) 3 77 := ⟨by decide +kernel, rfl⟩
theorem d_method_4_77 : Dec method_4_code 77 (.dup) 1 78 := ⟨by decide +kernel, rfl⟩
theorem d_method_4_78 : Dec method_4_code 78 (.iconst 2) 1 79 := ⟨by decide +kernel, rfl⟩
theorem d_method_4_79 : Dec method_4_code 79 (.newarray .char) 2 81 := ⟨by decide +kernel, rfl⟩
theorem d_method_4_81 : Dec method_4_code 81 (.dup) 1 82 := ⟨by decide +kernel, rfl⟩
theorem d_method_4_82 : Dec method_4_code 82 (.iconst 0) 1 83 := ⟨by decide +kernel, rfl⟩
theorem d_method_4_83 : Dec method_4_code 83 (.iload_n 2) 1 84 := ⟨by decide +kernel, rfl⟩
theorem d_method_4_84 : Dec method_4_code 84 (.castore) 1 85 := ⟨by decide +kernel, rfl⟩
theorem d_method_4_85 : Dec method_4_code 85 (.dup) 1 86 := ⟨by decide +kernel, rfl⟩
theorem d_method_4_86 : Dec method_4_code 86 (.iconst 1) 1 87 := ⟨by decide +kernel, rfl⟩
theorem d_method_4_87 : Dec method_4_code 87 (.iload_n 3) 1 88 := ⟨by decide +kernel, rfl⟩
theorem d_method_4_88 : Dec method_4_code 88 (.castore) 1 89 := ⟨by decide +kernel, rfl⟩
theorem d_method_4_89 : Dec method_4_code 89 (.invokespecial 47) 3 92 := ⟨by decide +kernel, rfl⟩
theorem d_method_4_92 : Dec method_4_code 92 (.areturn) 1 93 := ⟨by decide +kernel, rfl⟩
theorem d_method_4_54 : Dec method_4_code 54 (.new 42) 3 57 := ⟨by decide +kernel, rfl⟩
theorem d_method_4_57 : Dec method_4_code 57 (.dup) 1 58 := ⟨by decide +kernel, rfl⟩
theorem d_method_4_58 : Dec method_4_code 58 (.iconst 1) 1 59 := ⟨by decide +kernel, rfl⟩
theorem d_method_4_59 : Dec method_4_code 59 (.newarray .char) 2 61 := ⟨by decide +kernel, rfl⟩
theorem d_method_4_61 : Dec method_4_code 61 (.dup) 1 62 := ⟨by decide +kernel, rfl⟩
theorem d_method_4_62 : Dec method_4_code 62 (.iconst 0) 1 63 := ⟨by decide +kernel, rfl⟩
theorem d_method_4_63 : Dec method_4_code 63 (.iload_n 2) 1 64 := ⟨by decide +kernel, rfl⟩
theorem d_method_4_64 : Dec method_4_code 64 (.castore) 1 65 := ⟨by decide +kernel, rfl⟩
theorem d_method_4_65 : Dec method_4_code 65 (.invokespecial 47) 3 68 := ⟨by decide +kernel, rfl⟩
theorem d_method_4_68 : Dec method_4_code 68 (.areturn) 1 69 := ⟨by decide +kernel, rfl⟩
theorem d_method_4_38 : Dec method_4_code 38 (.new 42) 3 41 := ⟨by decide +kernel, rfl⟩
theorem d_method_4_41 : Dec method_4_code 41 (.dup) 1 42 := ⟨by decide +kernel, rfl⟩
theorem d_method_4_42 : Dec method_4_code 42 (.iconst 0) 1 43 := ⟨by decide +kernel, rfl⟩
theorem d_method_4_43 : Dec method_4_code 43 (.newarray .char) 2 45 := ⟨by decide +kernel, rfl⟩
theorem d_method_4_45 : Dec method_4_code 45 (.invokespecial 47) 3 48 := ⟨by decide +kernel, rfl⟩
theorem d_method_4_48 : Dec method_4_code 48 (.areturn) 1 49 := ⟨by decide +kernel, rfl⟩
set_option maxRecDepth 65536 in
set_option maxHeartbeats 40000000 in
theorem c_str (l : Launch) (Z : State) (a0 : Array Value) (hw : ∀ d ∈ tables_1, d.before a0 Z = true) (hE : EW Z a0 EL0) {n0 : Nat} {h0 : Heap} (hO : Old Z n0 h0) (hG : Gl Z) (k : Int32) :
    Ctr NW EL0 n0 Z [] l (⟨"com/example/trestle/trestle/action/ActionMessageWithBundlePinLaw", "str", "(I)Ljava/lang/String;"⟩ : MethodName) method_4_code 5 (some (.object "java/lang/String")) ({ frames := 4, cells := 6, slots := 12, locals := 80 } : Room) #[.int k] h0 (RV fun w h => ∃ r, w = .ref r ∧ Ext h0 h ∧ ∃ cs, Str Z h r cs) := by
  refine Ctr.body pn_1 hE hO (fun x q => nomatch q) (L0 := #[.val (.int k), .unset, .unset, .unset, .unset]) (fun m => by first | (simp [entryFrame, mkF, argsToLocals, Value.category, maxLocals]; done) | rfl) ?_
  intro p e s m below meth c T0 W0
  refine Go.iload_n W0.cx d_method_4_0 (v := k) rfl ?_
  refine Go.iconst W0.cx d_method_4_1 (z := (3 : Int32)) rfl ?_
  refine Go.iand W0.cx d_method_4_2 ?_
  refine Go.istore_n W0.cx d_method_4_3 (L' := #[.val (.int k), .val (.int (k &&& (3 : Int32))), .unset, .unset, .unset]) rfl ?_
  refine Go.iload_n W0.cx d_method_4_4 (v := k) rfl ?_
  refine Go.iconst W0.cx d_method_4_5 (z := (2 : Int32)) rfl ?_
  refine Go.iushr W0.cx d_method_4_6 ?_
  refine Go.sipush W0.cx d_method_4_7 (z := (255 : Int32)) rfl ?_
  refine Go.iand W0.cx d_method_4_10 ?_
  refine Go.i2c W0.cx d_method_4_11 ?_
  refine Go.top (show _ = ((ush k (2 : Int32)) &&& (255 : Int32)) from i2c_mask _) ?_
  refine Go.istore_n W0.cx d_method_4_12 (L' := #[.val (.int k), .val (.int (k &&& (3 : Int32))), .val (.int ((ush k (2 : Int32)) &&& (255 : Int32))), .unset, .unset]) rfl ?_
  refine Go.iload_n W0.cx d_method_4_13 (v := k) rfl ?_
  refine Go.bipush W0.cx d_method_4_14 (z := (10 : Int32)) rfl ?_
  refine Go.iushr W0.cx d_method_4_16 ?_
  refine Go.sipush W0.cx d_method_4_17 (z := (255 : Int32)) rfl ?_
  refine Go.iand W0.cx d_method_4_20 ?_
  refine Go.i2c W0.cx d_method_4_21 ?_
  refine Go.top (show _ = ((ush k (10 : Int32)) &&& (255 : Int32)) from i2c_mask _) ?_
  refine Go.istore_n W0.cx d_method_4_22 (L' := #[.val (.int k), .val (.int (k &&& (3 : Int32))), .val (.int ((ush k (2 : Int32)) &&& (255 : Int32))), .val (.int ((ush k (10 : Int32)) &&& (255 : Int32))), .unset]) rfl ?_
  refine Go.iload_n W0.cx d_method_4_23 (v := k) rfl ?_
  refine Go.bipush W0.cx d_method_4_24 (z := (18 : Int32)) rfl ?_
  refine Go.iushr W0.cx d_method_4_26 ?_
  refine Go.sipush W0.cx d_method_4_27 (z := (255 : Int32)) rfl ?_
  refine Go.iand W0.cx d_method_4_30 ?_
  refine Go.i2c W0.cx d_method_4_31 ?_
  refine Go.top (show _ = ((ush k (18 : Int32)) &&& (255 : Int32)) from i2c_mask _) ?_
  refine Go.istore W0.cx d_method_4_32 (L' := #[.val (.int k), .val (.int (k &&& (3 : Int32))), .val (.int ((ush k (2 : Int32)) &&& (255 : Int32))), .val (.int ((ush k (10 : Int32)) &&& (255 : Int32))), .val (.int ((ush k (18 : Int32)) &&& (255 : Int32)))]) rfl ?_
  refine Go.iload_n W0.cx d_method_4_34 (v := (k &&& (3 : Int32))) rfl ?_
  refine Go.ifne W0.cx d_method_4_35 (by decide) (q := 49) rfl (fun c0 => ?_) (fun c0 => ?_)
  · refine Go.iload_n W0.cx d_method_4_49 (v := (k &&& (3 : Int32))) rfl ?_
    refine Go.iconst W0.cx d_method_4_50 (z := (1 : Int32)) rfl ?_
    refine Go.icne W0.cx d_method_4_51 (by decide) (q := 69) rfl (fun c1 => ?_) (fun c1 => ?_)
    · refine Go.iload_n W0.cx d_method_4_69 (v := (k &&& (3 : Int32))) rfl ?_
      refine Go.iconst W0.cx d_method_4_70 (z := (2 : Int32)) rfl ?_
      refine Go.icne W0.cx d_method_4_71 (by decide) (q := 93) rfl (fun c2 => ?_) (fun c2 => ?_)
      · refine Go.new W0 d_method_4_93 (wd hw 4 rfl) (wd hw 5 rfl) (wd hw 6 rfl) (cells' := 1) (slots' := 4) rfl rfl (by decide) (by decide) ?_
        intro T1 h1 a1 g1 W1 E1 A1 D1
        have N1 : NewS Z h1 a1 := ⟨A1, D1 (Or.inr (wd hw 20 rfl)) (t := .array .byte) (by decide), D1 (Or.inr (wd hw 21 rfl)) (t := .byte) (by decide)⟩
        refine Go.dup W1.cx d_method_4_96 rfl ?_
        refine Go.iconst W1.cx d_method_4_97 (z := (3 : Int32)) rfl ?_
        refine Go.newarr W1 d_method_4_98 (wd hw 7 rfl) (z := (3 : Int32)) (cap := 3) (by decide) (by decide) (by decide) (cells' := 2) (slots' := 7) rfl rfl (by decide) (by decide) ?_
        intro T2 h2 a2 ka2 g2 W2 E2 A2
        have V2 : CArr Z h2 a2 ka2 [0, 0, 0] := CArr.of_new A2 (k := 3) rfl rfl
        have X2 : Ext h0 h2 := ext_trans E1 E2
        have N2 := N1.ext E2
        refine Go.dup W2.cx d_method_4_100 rfl ?_
        refine Go.iconst W2.cx d_method_4_101 (z := (0 : Int32)) rfl ?_
        refine Go.iload_n W2.cx d_method_4_102 (v := ((ush k (2 : Int32)) &&& (255 : Int32))) rfl ?_
        refine Go.castore W2 0 d_method_4_103 V2 (by simp) rfl (Nat.le_of_ble_eq_true rfl) (Nat.le_of_ble_eq_true rfl) (x' := (ush k (2 : Int32) &&& (255 : Int32))) (nar_ok _) ?_
        intro T3 h3 W3 K3 V3
        have V3 : CArr Z h3 a2 ka2 [(ush k (2 : Int32) &&& (255 : Int32)), 0, 0] := V3
        have N3 := N2.keep K3 (nin1 N1.1.lt g2)
        have X3 : Ext h0 h3 := ext_keep X2 K3 (all1 (by rw [g2]; exact E1.1))
        refine Go.dup W3.cx d_method_4_104 rfl ?_
        refine Go.iconst W3.cx d_method_4_105 (z := (1 : Int32)) rfl ?_
        refine Go.iload_n W3.cx d_method_4_106 (v := ((ush k (10 : Int32)) &&& (255 : Int32))) rfl ?_
        refine Go.castore W3 1 d_method_4_107 V3 (by simp) rfl (Nat.le_of_ble_eq_true rfl) (Nat.le_of_ble_eq_true rfl) (x' := (ush k (10 : Int32) &&& (255 : Int32))) (nar_ok _) ?_
        intro T4 h4 W4 K4 V4
        have V4 : CArr Z h4 a2 ka2 [(ush k (2 : Int32) &&& (255 : Int32)), (ush k (10 : Int32) &&& (255 : Int32)), 0] := V4
        have N4 := N3.keep K4 (nin1 N1.1.lt g2)
        have X4 : Ext h0 h4 := ext_keep X3 K4 (all1 (by rw [g2]; exact E1.1))
        refine Go.dup W4.cx d_method_4_108 rfl ?_
        refine Go.iconst W4.cx d_method_4_109 (z := (2 : Int32)) rfl ?_
        refine Go.iload W4.cx d_method_4_110 (v := ((ush k (18 : Int32)) &&& (255 : Int32))) rfl ?_
        refine Go.castore W4 2 d_method_4_112 V4 (by simp) rfl (Nat.le_of_ble_eq_true rfl) (Nat.le_of_ble_eq_true rfl) (x' := (ush k (18 : Int32) &&& (255 : Int32))) (nar_ok _) ?_
        intro T5 h5 W5 K5 V5
        have V5 : CArr Z h5 a2 ka2 [(ush k (2 : Int32) &&& (255 : Int32)), (ush k (10 : Int32) &&& (255 : Int32)), (ush k (18 : Int32) &&& (255 : Int32))] := V5
        have N5 := N4.keep K5 (nin1 N1.1.lt g2)
        have X5 : Ext h0 h5 := ext_keep X4 K5 (all1 (by rw [g2]; exact E1.1))
        have hp6 : ∀ c ∈ [(ush k (2 : Int32) &&& (255 : Int32)), (ush k (10 : Int32) &&& (255 : Int32)), (ush k (18 : Int32) &&& (255 : Int32))], ¬ c < 0 ∧ ¬ (255 : Int32) < c := all_cons (b255 _) (all_cons (b255 _) (all_cons (b255 _) (all_nil)))
        refine Go.invi W5 (newStr (wt := 1) W5.ew hw hG N5 V5 (W5.mine (by simp)) (by simp) hp6 (Nat.le_of_ble_eq_true rfl) (Nat.le_of_ble_eq_true rfl) (by decide) (by decide)) d_method_4_113 rfl (wd hw 8 rfl) (wd hw 9 rfl) (wd hw 10 rfl) (by decide) pd_1 rfl rfl (rest := [(.ref a1)]) rfl (Nat.le_of_eq rfl) (cells' := 3) (slots' := 10) rfl rfl (by decide) (by decide) ?_
        rintro T7 h7 W7 z7 ⟨K7, S7⟩
        have X7 : Ext h0 h7 := ext_keep X5 K7 (all1 (Nat.le_of_eq g1.symm))
        exact Go.aret W7 d_method_4_116 rfl rfl rfl (by decide) (by decide) ⟨_, rfl, a1, rfl, X7, _, S7⟩
      · refine Go.new W0 d_method_4_74 (wd hw 4 rfl) (wd hw 5 rfl) (wd hw 6 rfl) (cells' := 1) (slots' := 4) rfl rfl (by decide) (by decide) ?_
        intro T8 h8 a8 g8 W8 E8 A8 D8
        have N8 : NewS Z h8 a8 := ⟨A8, D8 (Or.inr (wd hw 20 rfl)) (t := .array .byte) (by decide), D8 (Or.inr (wd hw 21 rfl)) (t := .byte) (by decide)⟩
        refine Go.dup W8.cx d_method_4_77 rfl ?_
        refine Go.iconst W8.cx d_method_4_78 (z := (2 : Int32)) rfl ?_
        refine Go.newarr W8 d_method_4_79 (wd hw 7 rfl) (z := (2 : Int32)) (cap := 2) (by decide) (by decide) (by decide) (cells' := 2) (slots' := 6) rfl rfl (by decide) (by decide) ?_
        intro T9 h9 a9 ka9 g9 W9 E9 A9
        have V9 : CArr Z h9 a9 ka9 [0, 0] := CArr.of_new A9 (k := 2) rfl rfl
        have X9 : Ext h0 h9 := ext_trans E8 E9
        have N9 := N8.ext E9
        refine Go.dup W9.cx d_method_4_81 rfl ?_
        refine Go.iconst W9.cx d_method_4_82 (z := (0 : Int32)) rfl ?_
        refine Go.iload_n W9.cx d_method_4_83 (v := ((ush k (2 : Int32)) &&& (255 : Int32))) rfl ?_
        refine Go.castore W9 0 d_method_4_84 V9 (by simp) rfl (Nat.le_of_ble_eq_true rfl) (Nat.le_of_ble_eq_true rfl) (x' := (ush k (2 : Int32) &&& (255 : Int32))) (nar_ok _) ?_
        intro T10 h10 W10 K10 V10
        have V10 : CArr Z h10 a9 ka9 [(ush k (2 : Int32) &&& (255 : Int32)), 0] := V10
        have N10 := N9.keep K10 (nin1 N8.1.lt g9)
        have X10 : Ext h0 h10 := ext_keep X9 K10 (all1 (by rw [g9]; exact E8.1))
        refine Go.dup W10.cx d_method_4_85 rfl ?_
        refine Go.iconst W10.cx d_method_4_86 (z := (1 : Int32)) rfl ?_
        refine Go.iload_n W10.cx d_method_4_87 (v := ((ush k (10 : Int32)) &&& (255 : Int32))) rfl ?_
        refine Go.castore W10 1 d_method_4_88 V10 (by simp) rfl (Nat.le_of_ble_eq_true rfl) (Nat.le_of_ble_eq_true rfl) (x' := (ush k (10 : Int32) &&& (255 : Int32))) (nar_ok _) ?_
        intro T11 h11 W11 K11 V11
        have V11 : CArr Z h11 a9 ka9 [(ush k (2 : Int32) &&& (255 : Int32)), (ush k (10 : Int32) &&& (255 : Int32))] := V11
        have N11 := N10.keep K11 (nin1 N8.1.lt g9)
        have X11 : Ext h0 h11 := ext_keep X10 K11 (all1 (by rw [g9]; exact E8.1))
        have hp12 : ∀ c ∈ [(ush k (2 : Int32) &&& (255 : Int32)), (ush k (10 : Int32) &&& (255 : Int32))], ¬ c < 0 ∧ ¬ (255 : Int32) < c := all_cons (b255 _) (all_cons (b255 _) (all_nil))
        refine Go.invi W11 (newStr (wt := 1) W11.ew hw hG N11 V11 (W11.mine (by simp)) (by simp) hp12 (Nat.le_of_ble_eq_true rfl) (Nat.le_of_ble_eq_true rfl) (by decide) (by decide)) d_method_4_89 rfl (wd hw 8 rfl) (wd hw 9 rfl) (wd hw 10 rfl) (by decide) pd_1 rfl rfl (rest := [(.ref a8)]) rfl (Nat.le_of_eq rfl) (cells' := 3) (slots' := 8) rfl rfl (by decide) (by decide) ?_
        rintro T13 h13 W13 z13 ⟨K13, S13⟩
        have X13 : Ext h0 h13 := ext_keep X11 K13 (all1 (Nat.le_of_eq g8.symm))
        exact Go.aret W13 d_method_4_92 rfl rfl rfl (by decide) (by decide) ⟨_, rfl, a8, rfl, X13, _, S13⟩
    · refine Go.new W0 d_method_4_54 (wd hw 4 rfl) (wd hw 5 rfl) (wd hw 6 rfl) (cells' := 1) (slots' := 4) rfl rfl (by decide) (by decide) ?_
      intro T14 h14 a14 g14 W14 E14 A14 D14
      have N14 : NewS Z h14 a14 := ⟨A14, D14 (Or.inr (wd hw 20 rfl)) (t := .array .byte) (by decide), D14 (Or.inr (wd hw 21 rfl)) (t := .byte) (by decide)⟩
      refine Go.dup W14.cx d_method_4_57 rfl ?_
      refine Go.iconst W14.cx d_method_4_58 (z := (1 : Int32)) rfl ?_
      refine Go.newarr W14 d_method_4_59 (wd hw 7 rfl) (z := (1 : Int32)) (cap := 1) (by decide) (by decide) (by decide) (cells' := 2) (slots' := 5) rfl rfl (by decide) (by decide) ?_
      intro T15 h15 a15 ka15 g15 W15 E15 A15
      have V15 : CArr Z h15 a15 ka15 [0] := CArr.of_new A15 (k := 1) rfl rfl
      have X15 : Ext h0 h15 := ext_trans E14 E15
      have N15 := N14.ext E15
      refine Go.dup W15.cx d_method_4_61 rfl ?_
      refine Go.iconst W15.cx d_method_4_62 (z := (0 : Int32)) rfl ?_
      refine Go.iload_n W15.cx d_method_4_63 (v := ((ush k (2 : Int32)) &&& (255 : Int32))) rfl ?_
      refine Go.castore W15 0 d_method_4_64 V15 (by simp) rfl (Nat.le_of_ble_eq_true rfl) (Nat.le_of_ble_eq_true rfl) (x' := (ush k (2 : Int32) &&& (255 : Int32))) (nar_ok _) ?_
      intro T16 h16 W16 K16 V16
      have V16 : CArr Z h16 a15 ka15 [(ush k (2 : Int32) &&& (255 : Int32))] := V16
      have N16 := N15.keep K16 (nin1 N14.1.lt g15)
      have X16 : Ext h0 h16 := ext_keep X15 K16 (all1 (by rw [g15]; exact E14.1))
      have hp17 : ∀ c ∈ [(ush k (2 : Int32) &&& (255 : Int32))], ¬ c < 0 ∧ ¬ (255 : Int32) < c := all_cons (b255 _) (all_nil)
      refine Go.invi W16 (newStr (wt := 1) W16.ew hw hG N16 V16 (W16.mine (by simp)) (by simp) hp17 (Nat.le_of_ble_eq_true rfl) (Nat.le_of_ble_eq_true rfl) (by decide) (by decide)) d_method_4_65 rfl (wd hw 8 rfl) (wd hw 9 rfl) (wd hw 10 rfl) (by decide) pd_1 rfl rfl (rest := [(.ref a14)]) rfl (Nat.le_of_eq rfl) (cells' := 3) (slots' := 6) rfl rfl (by decide) (by decide) ?_
      rintro T18 h18 W18 z18 ⟨K18, S18⟩
      have X18 : Ext h0 h18 := ext_keep X16 K18 (all1 (Nat.le_of_eq g14.symm))
      exact Go.aret W18 d_method_4_68 rfl rfl rfl (by decide) (by decide) ⟨_, rfl, a14, rfl, X18, _, S18⟩
  · refine Go.new W0 d_method_4_38 (wd hw 4 rfl) (wd hw 5 rfl) (wd hw 6 rfl) (cells' := 1) (slots' := 4) rfl rfl (by decide) (by decide) ?_
    intro T19 h19 a19 g19 W19 E19 A19 D19
    have N19 : NewS Z h19 a19 := ⟨A19, D19 (Or.inr (wd hw 20 rfl)) (t := .array .byte) (by decide), D19 (Or.inr (wd hw 21 rfl)) (t := .byte) (by decide)⟩
    refine Go.dup W19.cx d_method_4_41 rfl ?_
    refine Go.iconst W19.cx d_method_4_42 (z := (0 : Int32)) rfl ?_
    refine Go.newarr W19 d_method_4_43 (wd hw 7 rfl) (z := (0 : Int32)) (cap := 0) (by decide) (by decide) (by decide) (cells' := 2) (slots' := 4) rfl rfl (by decide) (by decide) ?_
    intro T20 h20 a20 ka20 g20 W20 E20 A20
    have V20 : CArr Z h20 a20 ka20 [] := CArr.of_new A20 (k := 0) rfl rfl
    have X20 : Ext h0 h20 := ext_trans E19 E20
    have N20 := N19.ext E20
    refine Go.invi W20 (Ctr.call (wt := 1) (c_s3 l Z a0 hw hE W20.old (W20.mine (by simp)).1 N20 V20) W20.ew (wd hw 10 rfl) (wd hw 6 rfl) (by simp) (by decide) (by decide)) d_method_4_45 rfl (wd hw 8 rfl) (wd hw 9 rfl) (wd hw 10 rfl) (by decide) pd_1 rfl rfl (rest := [(.ref a19)]) rfl (Nat.le_of_eq rfl) (cells' := 6) (slots' := 12) rfl rfl (by decide) (by decide) ?_
    rintro T21 h21 W21 z21 ⟨K21, S21⟩
    have X21 : Ext h0 h21 := ext_keep X20 K21 (all1 (Nat.le_of_eq g19.symm))
    exact Go.aret W21 d_method_4_48 rfl rfl rfl (by decide) (by decide) ⟨_, rfl, a19, rfl, X21, _, S21⟩
theorem pn_2 : plainName "com/example/trestle/trestle/action/ActionMessage" = true := by first | (simp [plainName, overriddenIn]; done) | decide +kernel
theorem d_prog_4_method_9_0 : Dec prog_4_method_9_code 0 (.aload_n 0) 1 1 := ⟨by decide +kernel, rfl⟩
theorem d_prog_4_method_9_1 : Dec prog_4_method_9_code 1 (.invokespecial 21) 3 4 := ⟨by decide +kernel, rfl⟩
theorem d_prog_4_method_9_4 : Dec prog_4_method_9_code 4 (.aload_n 0) 1 5 := ⟨by decide +kernel, rfl⟩
theorem d_prog_4_method_9_5 : Dec prog_4_method_9_code 5 (.aload_n 1) 1 6 := ⟨by decide +kernel, rfl⟩
theorem d_prog_4_method_9_6 : Dec prog_4_method_9_code 6 (.putfield 24) 3 9 := ⟨by decide +kernel, rfl⟩
theorem d_prog_4_method_9_9 : Dec prog_4_method_9_code 9 (.aload_n 0) 1 10 := ⟨by decide +kernel, rfl⟩
theorem d_prog_4_method_9_10 : Dec prog_4_method_9_code 10 (.aload_n 2) 1 11 := ⟨by decide +kernel, rfl⟩
theorem d_prog_4_method_9_11 : Dec prog_4_method_9_code 11 (.putfield 28) 3 14 := ⟨by decide +kernel, rfl⟩
theorem d_prog_4_method_9_14 : Dec prog_4_method_9_code 14 (.aload_n 0) 1 15 := ⟨by decide +kernel, rfl⟩
theorem d_prog_4_method_9_15 : Dec prog_4_method_9_code 15 (.iload_n 3) 1 16 := ⟨by decide +kernel, rfl⟩
theorem d_prog_4_method_9_16 : Dec prog_4_method_9_code 16 (.putfield 31) 3 19 := ⟨by decide +kernel, rfl⟩
theorem d_prog_4_method_9_19 : Dec prog_4_method_9_code 19 (.aload_n 0) 1 20 := ⟨by decide +kernel, rfl⟩
theorem d_prog_4_method_9_20 : Dec prog_4_method_9_code 20 (.aload 4) 2 22 := ⟨by decide +kernel, rfl⟩
theorem d_prog_4_method_9_22 : Dec prog_4_method_9_code 22 (.putfield 35) 3 25 := ⟨by decide +kernel, rfl⟩
theorem d_prog_4_method_9_25 : Dec prog_4_method_9_code 25 (.return_) 1 26 := ⟨by decide +kernel, rfl⟩
set_option maxRecDepth 65536 in
set_option maxHeartbeats 40000000 in
theorem c_9 (l : Launch) (Z : State) (a0 : Array Value) (hw : ∀ d ∈ tables_1, d.before a0 Z = true) (hE : EW Z a0 EL0) {n0 : Nat} {h0 : Heap} (hO : Old Z n0 h0) {a arr : Addr} {kv bv u1 u2 u3 u4 : Value} {rs : Int32} (hkv : kv = .null ∨ ∃ r, kv = .ref r) (hbv : bv = .null ∨ ∃ r, bv = .ref r) (hrs : B01 rs) (O_arr : OArr Z h0 arr "java/lang/Object" "[Ljava/lang/Object;") (hne : arr ≠ a) (ha : n0 ≤ a) (E_a : Exa Z h0 a "com/example/trestle/trestle/action/ActionMessage") (F_key : Fld Z h0 a "com/example/trestle/trestle/action/ActionMessage" "key" "Ljava/lang/String;" u1) (F_values : Fld Z h0 a "com/example/trestle/trestle/action/ActionMessage" "values" "[Ljava/lang/Object;" u2) (F_resource : Fld Z h0 a "com/example/trestle/trestle/action/ActionMessage" "resource" "Z" u3) (F_bundle : Fld Z h0 a "com/example/trestle/trestle/action/ActionMessage" "bundle" "Ljava/lang/String;" u4) :
    Ctr NW EL0 n0 Z [a] l (⟨"com/example/trestle/trestle/action/ActionMessage", "<init>", "(Ljava/lang/String;[Ljava/lang/Object;ZLjava/lang/String;)V"⟩ : MethodName) prog_4_method_9_code 5 none ({ frames := 1, cells := 0, slots := 0, locals := 12 } : Room) #[.ref a, kv, .ref arr, .int rs, bv] h0 (RN fun h => Keep h0 h [a] ∧ AMs Z h a kv arr rs bv) := by
  refine Ctr.body pn_2 hE hO (fun x q => by cases List.mem_singleton.mp q; exact ⟨ha, E_a.lt⟩) (L0 := #[.val (.ref a), .val kv, .val (.ref arr), .val (.int rs), .val bv]) (fun m => by rcases hkv with rfl | ⟨_, rfl⟩ <;> rcases hbv with rfl | ⟨_, rfl⟩ <;> rfl) ?_
  intro p e s m below meth c T0 W0
  refine Go.aload_n W0.cx d_prog_4_method_9_0 (v := (.ref a)) rfl rfl ?_
  refine Go.initObj W0 d_prog_4_method_9_1 (wd hw 60 rfl) (wd hw 16 rfl) (wd hw 17 rfl) rfl (by decide) (wt := 0) rfl (by decide) ?_
  intro T1 W1
  refine Go.aload_n W1.cx d_prog_4_method_9_4 (v := (.ref a)) rfl rfl ?_
  refine Go.aload_n W1.cx d_prog_4_method_9_5 (v := kv) rfl (or_is hkv) ?_
  refine Go.putf W1 d_prog_4_method_9_6 (wd hw 61 rfl) Via.refl F_key E_a (Or.inr ⟨(wd hw 62 rfl), rfl, rfl⟩) (wd hw 38 rfl) (t := (.object "java/lang/String")) (by decide) (v' := kv) (or_nf hkv _).1 (or_nf hkv _).2 (by simp) ?_
  intro T2 h2 W2 R2
  have E2 := E_a.wr R2
  have Q2 : Keep h0 h2 [a] := (Keep.refl _ _).wr R2 (Or.inl (by simp))
  have F2_key := F_key.same R2
  have F2_values := F_values.other R2 (Or.inr (slot_ne (Or.inr (wd hw 64 rfl)) (Or.inr (wd hw 62 rfl)) (by decide) (t := (.array (.object "java/lang/Object"))) (t' := (.object "java/lang/String")) (by decide) (by decide)))
  have F2_resource := F_resource.other R2 (Or.inr (slot_ne (Or.inr (wd hw 66 rfl)) (Or.inr (wd hw 62 rfl)) (by decide) (t := .boolean) (t' := (.object "java/lang/String")) (by decide) (by decide)))
  have F2_bundle := F_bundle.other R2 (Or.inr (slot_ne (Or.inr (wd hw 68 rfl)) (Or.inr (wd hw 62 rfl)) (by decide) (t := (.object "java/lang/String")) (t' := (.object "java/lang/String")) (by decide) (by decide)))
  refine Go.aload_n W2.cx d_prog_4_method_9_9 (v := (.ref a)) rfl rfl ?_
  refine Go.aload_n W2.cx d_prog_4_method_9_10 (v := (.ref arr)) rfl rfl ?_
  refine Go.putf W2 d_prog_4_method_9_11 (wd hw 63 rfl) Via.refl F2_values E2 (Or.inr ⟨(wd hw 64 rfl), rfl, rfl⟩) (wd hw 38 rfl) (t := (.array (.object "java/lang/Object"))) (by decide) (v' := (.ref arr)) rfl rfl (by simp) ?_
  intro T3 h3 W3 R3
  have E3 := E2.wr R3
  have Q3 : Keep h0 h3 [a] := Q2.wr R3 (Or.inl (by simp))
  have F3_key := F2_key.other R3 (Or.inr (slot_ne (Or.inr (wd hw 62 rfl)) (Or.inr (wd hw 64 rfl)) (by decide) (t := (.object "java/lang/String")) (t' := (.array (.object "java/lang/Object"))) (by decide) (by decide)))
  have F3_values := F2_values.same R3
  have F3_resource := F2_resource.other R3 (Or.inr (slot_ne (Or.inr (wd hw 66 rfl)) (Or.inr (wd hw 64 rfl)) (by decide) (t := .boolean) (t' := (.array (.object "java/lang/Object"))) (by decide) (by decide)))
  have F3_bundle := F2_bundle.other R3 (Or.inr (slot_ne (Or.inr (wd hw 68 rfl)) (Or.inr (wd hw 64 rfl)) (by decide) (t := (.object "java/lang/String")) (t' := (.array (.object "java/lang/Object"))) (by decide) (by decide)))
  refine Go.aload_n W3.cx d_prog_4_method_9_14 (v := (.ref a)) rfl rfl ?_
  refine Go.iload_n W3.cx d_prog_4_method_9_15 (v := rs) rfl ?_
  refine Go.putf W3 d_prog_4_method_9_16 (wd hw 65 rfl) Via.refl F3_resource E3 (Or.inr ⟨(wd hw 66 rfl), rfl, rfl⟩) (wd hw 38 rfl) (t := .boolean) (by decide) (v' := (.int rs)) hrs.1 hrs.2 (by simp) ?_
  intro T4 h4 W4 R4
  have E4 := E3.wr R4
  have Q4 : Keep h0 h4 [a] := Q3.wr R4 (Or.inl (by simp))
  have F4_key := F3_key.other R4 (Or.inr (slot_ne (Or.inr (wd hw 62 rfl)) (Or.inr (wd hw 66 rfl)) (by decide) (t := (.object "java/lang/String")) (t' := .boolean) (by decide) (by decide)))
  have F4_values := F3_values.other R4 (Or.inr (slot_ne (Or.inr (wd hw 64 rfl)) (Or.inr (wd hw 66 rfl)) (by decide) (t := (.array (.object "java/lang/Object"))) (t' := .boolean) (by decide) (by decide)))
  have F4_resource := F3_resource.same R4
  have F4_bundle := F3_bundle.other R4 (Or.inr (slot_ne (Or.inr (wd hw 68 rfl)) (Or.inr (wd hw 66 rfl)) (by decide) (t := (.object "java/lang/String")) (t' := .boolean) (by decide) (by decide)))
  refine Go.aload_n W4.cx d_prog_4_method_9_19 (v := (.ref a)) rfl rfl ?_
  refine Go.aload W4.cx d_prog_4_method_9_20 (v := bv) rfl (or_is hbv) ?_
  refine Go.putf W4 d_prog_4_method_9_22 (wd hw 67 rfl) Via.refl F4_bundle E4 (Or.inr ⟨(wd hw 68 rfl), rfl, rfl⟩) (wd hw 38 rfl) (t := (.object "java/lang/String")) (by decide) (v' := bv) (or_nf hbv _).1 (or_nf hbv _).2 (by simp) ?_
  intro T5 h5 W5 R5
  have E5 := E4.wr R5
  have Q5 : Keep h0 h5 [a] := Q4.wr R5 (Or.inl (by simp))
  have F5_key := F4_key.other R5 (Or.inr (slot_ne (Or.inr (wd hw 62 rfl)) (Or.inr (wd hw 68 rfl)) (by decide) (t := (.object "java/lang/String")) (t' := (.object "java/lang/String")) (by decide) (by decide)))
  have F5_values := F4_values.other R5 (Or.inr (slot_ne (Or.inr (wd hw 64 rfl)) (Or.inr (wd hw 68 rfl)) (by decide) (t := (.array (.object "java/lang/Object"))) (t' := (.object "java/lang/String")) (by decide) (by decide)))
  have F5_resource := F4_resource.other R5 (Or.inr (slot_ne (Or.inr (wd hw 66 rfl)) (Or.inr (wd hw 68 rfl)) (by decide) (t := .boolean) (t' := (.object "java/lang/String")) (by decide) (by decide)))
  have F5_bundle := F4_bundle.same R5
  exact Go.vret W5 d_prog_4_method_9_25 (by decide) (by decide) ⟨rfl, Q5, E5, F5_key, F5_values, F5_resource, F5_bundle, O_arr.keep Q5 (fun q => hne (List.mem_singleton.mp q))⟩
theorem d_prog_4_method_8_0 : Dec prog_4_method_8_code 0 (.aload_n 0) 1 1 := ⟨by decide +kernel, rfl⟩
theorem d_prog_4_method_8_1 : Dec prog_4_method_8_code 1 (.aload_n 1) 1 2 := ⟨by decide +kernel, rfl⟩
theorem d_prog_4_method_8_2 : Dec prog_4_method_8_code 2 (.aload_n 2) 1 3 := ⟨by decide +kernel, rfl⟩
theorem d_prog_4_method_8_3 : Dec prog_4_method_8_code 3 (.ifnonnull 10) 3 6 := ⟨by decide +kernel, rfl⟩
theorem d_prog_4_method_8_13 : Dec prog_4_method_8_code 13 (.aload_n 2) 1 14 := ⟨by decide +kernel, rfl⟩
theorem d_prog_4_method_8_14 : Dec prog_4_method_8_code 14 (.invokevirtual 12) 3 17 := ⟨by decide +kernel, rfl⟩
theorem d_prog_4_method_8_17 : Dec prog_4_method_8_code 17 (.checkcast 13) 3 20 := ⟨by decide +kernel, rfl⟩
theorem d_prog_4_method_8_20 : Dec prog_4_method_8_code 20 (.iload_n 3) 1 21 := ⟨by decide +kernel, rfl⟩
theorem d_prog_4_method_8_21 : Dec prog_4_method_8_code 21 (.aconst_null) 1 22 := ⟨by decide +kernel, rfl⟩
theorem d_prog_4_method_8_22 : Dec prog_4_method_8_code 22 (.invokespecial 18) 3 25 := ⟨by decide +kernel, rfl⟩
theorem pd_2 : parseMethodDescriptor "(Ljava/lang/String;[Ljava/lang/Object;ZLjava/lang/String;)V" = some ⟨[(.object "java/lang/String"), (.array (.object "java/lang/Object")), .boolean, (.object "java/lang/String")], none⟩ := by decide +kernel
theorem d_prog_4_method_8_25 : Dec prog_4_method_8_code 25 (.return_) 1 26 := ⟨by decide +kernel, rfl⟩
set_option maxRecDepth 65536 in
set_option maxHeartbeats 40000000 in
theorem c_8 (l : Launch) (Z : State) (a0 : Array Value) (hw : ∀ d ∈ tables_1, d.before a0 Z = true) (hE : EW Z a0 EL0) {n0 : Nat} {h0 : Heap} (hO : Old Z n0 h0) {a arr : Addr} {kv u1 u2 u3 u4 : Value} {rs : Int32} (hkv : kv = .null ∨ ∃ r, kv = .ref r) (hrs : B01 rs) (O_arr : OArr Z h0 arr "java/lang/Object" "[Ljava/lang/Object;") (ha : n0 ≤ a) (E_a : Exa Z h0 a "com/example/trestle/trestle/action/ActionMessage") (F_key : Fld Z h0 a "com/example/trestle/trestle/action/ActionMessage" "key" "Ljava/lang/String;" u1) (F_values : Fld Z h0 a "com/example/trestle/trestle/action/ActionMessage" "values" "[Ljava/lang/Object;" u2) (F_resource : Fld Z h0 a "com/example/trestle/trestle/action/ActionMessage" "resource" "Z" u3) (F_bundle : Fld Z h0 a "com/example/trestle/trestle/action/ActionMessage" "bundle" "Ljava/lang/String;" u4) :
    Ctr NW EL0 n0 Z [a] l (⟨"com/example/trestle/trestle/action/ActionMessage", "<init>", "(Ljava/lang/String;[Ljava/lang/Object;Z)V"⟩ : MethodName) prog_4_method_8_code 4 none ({ frames := 2, cells := 1, slots := 0, locals := 28 } : Room) #[.ref a, kv, .ref arr, .int rs] h0 (RN fun h => Keep h0 h [a] ∧ ∃ ar, AMs Z h a kv ar rs .null) := by
  refine Ctr.body pn_2 hE hO (fun x q => by cases List.mem_singleton.mp q; exact ⟨ha, E_a.lt⟩) (L0 := #[.val (.ref a), .val kv, .val (.ref arr), .val (.int rs)]) (fun m => by rcases hkv with rfl | ⟨_, rfl⟩ <;> rfl) ?_
  intro p e s m below meth c T0 W0
  refine Go.aload_n W0.cx d_prog_4_method_8_0 (v := (.ref a)) rfl rfl ?_
  refine Go.aload_n W0.cx d_prog_4_method_8_1 (v := kv) rfl (or_is hkv) ?_
  refine Go.aload_n W0.cx d_prog_4_method_8_2 (v := (.ref arr)) rfl rfl ?_
  refine Go.ifnonnull_y W0.cx d_prog_4_method_8_3 (by decide) (q := 13) rfl ?_
  refine Go.aload_n W0.cx d_prog_4_method_8_13 (v := (.ref arr)) rfl rfl ?_
  refine Go.clone0 W0 d_prog_4_method_8_14 (wd hw 48 rfl) (wd hw 49 rfl) (wd hw 53 rfl) (wd hw 51 rfl) (wd hw 52 rfl) (wd hw 54 rfl) O_arr rfl (by decide) (wt := 2) (by rcases hkv with rfl | ⟨_, rfl⟩ <;> exact Nat.le_of_eq rfl) (by decide) (cells' := 1) rfl (by decide) (by decide) ?_
  intro T1 h1 a1 g1 W1 E1 O1
  refine Go.cast W1 d_prog_4_method_8_17 (wd hw 55 rfl) (Ins.self O1.exa) ?_
  intro T2 W2
  refine Go.iload_n W2.cx d_prog_4_method_8_20 (v := rs) rfl ?_
  refine Go.aconst_null W2.cx d_prog_4_method_8_21 ?_
  refine Go.invi W2 (Ctr.call (wt := 0) (c_9 l Z a0 hw hE W2.old (bv := .null) hkv (Or.inl rfl) hrs O1 (fun q => ne_new E_a.lt g1 q.symm) ha (E_a.ext E1) (F_key.ext E1) (F_values.ext E1) (F_resource.ext E1) (F_bundle.ext E1)) W2.ew (wd hw 59 rfl) (wd hw 39 rfl) (by simp) (by decide) (by decide)) d_prog_4_method_8_22 rfl (wd hw 57 rfl) (wd hw 58 rfl) (wd hw 59 rfl) (by decide) pd_2 rfl rfl (rest := []) rfl (Nat.le_of_eq rfl) (cells' := 1) (slots' := 0) rfl rfl (by decide) (by decide) ?_
  rintro T3 h3 W3 z3 ⟨K3, M3⟩
  exact Go.vret W3 d_prog_4_method_8_25 (by decide) (by decide) ⟨rfl, ((Keep.refl h0 [a]).ext E1).trans K3 (all1 (Or.inl (by simp))), a1, M3⟩
theorem d_prog_4_method_7_0 : Dec prog_4_method_7_code 0 (.aload_n 0) 1 1 := ⟨by decide +kernel, rfl⟩
theorem d_prog_4_method_7_1 : Dec prog_4_method_7_code 1 (.aload_n 1) 1 2 := ⟨by decide +kernel, rfl⟩
theorem d_prog_4_method_7_2 : Dec prog_4_method_7_code 2 (.iconst 0) 1 3 := ⟨by decide +kernel, rfl⟩
theorem d_prog_4_method_7_3 : Dec prog_4_method_7_code 3 (.anewarray 1) 3 6 := ⟨by decide +kernel, rfl⟩
theorem d_prog_4_method_7_6 : Dec prog_4_method_7_code 6 (.iload_n 2) 1 7 := ⟨by decide +kernel, rfl⟩
theorem d_prog_4_method_7_7 : Dec prog_4_method_7_code 7 (.invokespecial 9) 3 10 := ⟨by decide +kernel, rfl⟩
theorem pd_3 : parseMethodDescriptor "(Ljava/lang/String;[Ljava/lang/Object;Z)V" = some ⟨[(.object "java/lang/String"), (.array (.object "java/lang/Object")), .boolean], none⟩ := by decide +kernel
theorem d_prog_4_method_7_10 : Dec prog_4_method_7_code 10 (.return_) 1 11 := ⟨by decide +kernel, rfl⟩
set_option maxRecDepth 65536 in
set_option maxHeartbeats 40000000 in
theorem c_7 (l : Launch) (Z : State) (a0 : Array Value) (hw : ∀ d ∈ tables_1, d.before a0 Z = true) (hE : EW Z a0 EL0) {n0 : Nat} {h0 : Heap} (hO : Old Z n0 h0) {a : Addr} {kv u1 u2 u3 u4 : Value} {rs : Int32} (hkv : kv = .null ∨ ∃ r, kv = .ref r) (hrs : B01 rs) (ha : n0 ≤ a) (E_a : Exa Z h0 a "com/example/trestle/trestle/action/ActionMessage") (F_key : Fld Z h0 a "com/example/trestle/trestle/action/ActionMessage" "key" "Ljava/lang/String;" u1) (F_values : Fld Z h0 a "com/example/trestle/trestle/action/ActionMessage" "values" "[Ljava/lang/Object;" u2) (F_resource : Fld Z h0 a "com/example/trestle/trestle/action/ActionMessage" "resource" "Z" u3) (F_bundle : Fld Z h0 a "com/example/trestle/trestle/action/ActionMessage" "bundle" "Ljava/lang/String;" u4) :
    Ctr NW EL0 n0 Z [a] l (⟨"com/example/trestle/trestle/action/ActionMessage", "<init>", "(Ljava/lang/String;Z)V"⟩ : MethodName) prog_4_method_7_code 3 none ({ frames := 3, cells := 2, slots := 0, locals := 43 } : Room) #[.ref a, kv, .int rs] h0 (RN fun h => Keep h0 h [a] ∧ ∃ ar, AMs Z h a kv ar rs .null) := by
  refine Ctr.body pn_2 hE hO (fun x q => by cases List.mem_singleton.mp q; exact ⟨ha, E_a.lt⟩) (L0 := #[.val (.ref a), .val kv, .val (.int rs)]) (fun m => by rcases hkv with rfl | ⟨_, rfl⟩ <;> rfl) ?_
  intro p e s m below meth c T0 W0
  refine Go.aload_n W0.cx d_prog_4_method_7_0 (v := (.ref a)) rfl rfl ?_
  refine Go.aload_n W0.cx d_prog_4_method_7_1 (v := kv) rfl (or_is hkv) ?_
  refine Go.iconst W0.cx d_prog_4_method_7_2 (z := (0 : Int32)) rfl ?_
  refine Go.newobjs0 W0 d_prog_4_method_7_3 (wd hw 43 rfl) (wd hw 44 rfl) (cells' := 1) rfl (by decide) (by decide) rfl ?_
  intro T1 h1 a1 g1 W1 E1 O1
  refine Go.iload_n W1.cx d_prog_4_method_7_6 (v := rs) rfl ?_
  refine Go.invi W1 (Ctr.call (wt := 0) (c_8 l Z a0 hw hE W1.old hkv hrs O1 ha (E_a.ext E1) (F_key.ext E1) (F_values.ext E1) (F_resource.ext E1) (F_bundle.ext E1)) W1.ew (wd hw 47 rfl) (wd hw 39 rfl) (by simp) (by decide) (by decide)) d_prog_4_method_7_7 rfl (wd hw 45 rfl) (wd hw 46 rfl) (wd hw 47 rfl) (by decide) pd_3 rfl rfl (rest := []) rfl (Nat.le_of_eq rfl) (cells' := 2) (slots' := 0) rfl rfl (by decide) (by decide) ?_
  rintro T2 h2 W2 z2 ⟨K2, ar, M2⟩
  exact Go.vret W2 d_prog_4_method_7_10 (by decide) (by decide) ⟨rfl, ((Keep.refl h0 [a]).ext E1).trans K2 (all1 (Or.inl (by simp))), ar, M2⟩
theorem d_prog_4_method_10_0 : Dec prog_4_method_10_code 0 (.new 4) 3 3 := ⟨by decide +kernel, rfl⟩
theorem d_prog_4_method_10_3 : Dec prog_4_method_10_code 3 (.dup) 1 4 := ⟨by decide +kernel, rfl⟩
theorem d_prog_4_method_10_4 : Dec prog_4_method_10_code 4 (.aload_n 0) 1 5 := ⟨by decide +kernel, rfl⟩
theorem d_prog_4_method_10_5 : Dec prog_4_method_10_code 5 (.getfield 24) 3 8 := ⟨by decide +kernel, rfl⟩
theorem d_prog_4_method_10_8 : Dec prog_4_method_10_code 8 (.aload_n 0) 1 9 := ⟨by decide +kernel, rfl⟩
theorem d_prog_4_method_10_9 : Dec prog_4_method_10_code 9 (.getfield 28) 3 12 := ⟨by decide +kernel, rfl⟩
theorem d_prog_4_method_10_12 : Dec prog_4_method_10_code 12 (.aload_n 0) 1 13 := ⟨by decide +kernel, rfl⟩
theorem d_prog_4_method_10_13 : Dec prog_4_method_10_code 13 (.getfield 31) 3 16 := ⟨by decide +kernel, rfl⟩
theorem d_prog_4_method_10_16 : Dec prog_4_method_10_code 16 (.aload_n 1) 1 17 := ⟨by decide +kernel, rfl⟩
theorem d_prog_4_method_10_17 : Dec prog_4_method_10_code 17 (.invokespecial 18) 3 20 := ⟨by decide +kernel, rfl⟩
theorem d_prog_4_method_10_20 : Dec prog_4_method_10_code 20 (.areturn) 1 21 := ⟨by decide +kernel, rfl⟩
set_option maxRecDepth 65536 in
set_option maxHeartbeats 40000000 in
theorem c_with (l : Launch) (Z : State) (a0 : Array Value) (hw : ∀ d ∈ tables_1, d.before a0 Z = true) (hE : EW Z a0 EL0) {n0 : Nat} {h0 : Heap} (hO : Old Z n0 h0) {a arr : Addr} {kv bv bv0 : Value} {rs : Int32} (hkv : kv = .null ∨ ∃ r, kv = .ref r) (hbv : bv = .null ∨ ∃ r, bv = .ref r) (hrs : B01 rs) (M : AMs Z h0 a kv arr rs bv0) :
    Ctr NW EL0 n0 Z [] l (⟨"com/example/trestle/trestle/action/ActionMessage", "withBundle", "(Ljava/lang/String;)Lcom/example/trestle/trestle/action/ActionMessage;"⟩ : MethodName) prog_4_method_10_code 2 (some (.object "com/example/trestle/trestle/action/ActionMessage")) ({ frames := 2, cells := 1, slots := 4, locals := 29 } : Room) #[.ref a, bv] h0 (RV fun w h => ∃ n, w = .ref n ∧ Ext h0 h ∧ AMs Z h n kv arr rs bv) := by
  refine Ctr.body pn_2 hE hO (fun x q => nomatch q) (L0 := #[.val (.ref a), .val bv]) (fun m => by rcases hbv with rfl | ⟨_, rfl⟩ <;> rfl) ?_
  intro p e s m below meth c T0 W0
  refine Go.new W0 d_prog_4_method_10_0 (wd hw 74 rfl) (wd hw 38 rfl) (wd hw 39 rfl) (cells' := 1) (slots' := 4) rfl rfl (by decide) (by decide) ?_
  intro T1 h1 a1 g1 W1 E1 A1 D1
  have F1_key := D1 (Or.inr (wd hw 62 rfl)) (t := (.object "java/lang/String")) (by decide)
  have F1_values := D1 (Or.inr (wd hw 64 rfl)) (t := (.array (.object "java/lang/Object"))) (by decide)
  have F1_resource := D1 (Or.inr (wd hw 66 rfl)) (t := .boolean) (by decide)
  have F1_bundle := D1 (Or.inr (wd hw 68 rfl)) (t := (.object "java/lang/String")) (by decide)
  have M1 := M.ext E1
  refine Go.dup W1.cx d_prog_4_method_10_3 rfl ?_
  refine Go.aload_n W1.cx d_prog_4_method_10_4 (v := (.ref a)) rfl rfl ?_
  refine Go.getf W1 d_prog_4_method_10_5 (wd hw 61 rfl) Via.refl M1.2.1 ?_
  intro T2 W2
  refine Go.aload_n W2.cx d_prog_4_method_10_8 (v := (.ref a)) rfl rfl ?_
  refine Go.getf W2 d_prog_4_method_10_9 (wd hw 63 rfl) Via.refl M1.2.2.1 ?_
  intro T3 W3
  refine Go.aload_n W3.cx d_prog_4_method_10_12 (v := (.ref a)) rfl rfl ?_
  refine Go.getf W3 d_prog_4_method_10_13 (wd hw 65 rfl) Via.refl M1.2.2.2.1 ?_
  intro T4 W4
  refine Go.aload_n W4.cx d_prog_4_method_10_16 (v := bv) rfl (or_is hbv) ?_
  refine Go.invi W4 (Ctr.call (wt := 1) (c_9 l Z a0 hw hE W4.old hkv hbv hrs M1.2.2.2.2.2 (ne_new M.2.2.2.2.2.lt g1) (W1.mine (by simp)).1 A1 F1_key F1_values F1_resource F1_bundle) W4.ew (wd hw 59 rfl) (wd hw 39 rfl) (by simp) (by decide) (by decide)) d_prog_4_method_10_17 rfl (wd hw 57 rfl) (wd hw 58 rfl) (wd hw 59 rfl) (by decide) pd_2 rfl rfl (rest := [(.ref a1)]) rfl (Nat.le_of_eq rfl) (cells' := 1) (slots' := 4) rfl rfl (by decide) (by decide) ?_
  rintro T5 h5 W5 z5 ⟨K5, M5⟩
  exact Go.aret W5 d_prog_4_method_10_20 rfl rfl rfl (by decide) (by decide) ⟨_, rfl, a1, rfl, ext_keep E1 K5 (all1 (Nat.le_of_eq g1.symm)), M5⟩
theorem d_prog_4_method_14_0 : Dec prog_4_method_14_code 0 (.aload_n 0) 1 1 := ⟨by decide +kernel, rfl⟩
theorem d_prog_4_method_14_1 : Dec prog_4_method_14_code 1 (.getfield 35) 3 4 := ⟨by decide +kernel, rfl⟩
theorem d_prog_4_method_14_4 : Dec prog_4_method_14_code 4 (.areturn) 1 5 := ⟨by decide +kernel, rfl⟩
set_option maxRecDepth 65536 in
set_option maxHeartbeats 40000000 in
theorem c_gb (l : Launch) (Z : State) (a0 : Array Value) (hw : ∀ d ∈ tables_1, d.before a0 Z = true) (hE : EW Z a0 EL0) {n0 : Nat} {h0 : Heap} (hO : Old Z n0 h0) {a arr : Addr} {kv bv : Value} {rs : Int32} (M : AMs Z h0 a kv arr rs bv) (hbv : bv = .null ∨ ∃ r, bv = .ref r) :
    Ctr NW EL0 n0 Z [] l (⟨"com/example/trestle/trestle/action/ActionMessage", "getBundle", "()Ljava/lang/String;"⟩ : MethodName) prog_4_method_14_code 1 (some (.object "java/lang/String")) ({ frames := 0, cells := 0, slots := 0, locals := 0 } : Room) #[.ref a] h0 (RV fun w h => bv = w ∧ h0 = h) := by
  refine Ctr.body pn_2 hE hO (fun x q => nomatch q) (L0 := #[.val (.ref a)]) (fun m => by first | (simp [entryFrame, mkF, argsToLocals, Value.category, maxLocals]; done) | rfl) ?_
  intro p e s m below meth c T0 W0
  refine Go.aload_n W0.cx d_prog_4_method_14_0 (v := (.ref a)) rfl rfl ?_
  refine Go.getf W0 d_prog_4_method_14_1 (wd hw 67 rfl) Via.refl M.2.2.2.2.1 ?_
  intro T1 W1
  exact Go.aret W1 d_prog_4_method_14_4 rfl (or_is hbv) (or_nf hbv _).1 (by decide) (by decide) ⟨_, rfl, rfl, rfl⟩
theorem d_prog_4_method_11_0 : Dec prog_4_method_11_code 0 (.aload_n 0) 1 1 := ⟨by decide +kernel, rfl⟩
theorem d_prog_4_method_11_1 : Dec prog_4_method_11_code 1 (.getfield 24) 3 4 := ⟨by decide +kernel, rfl⟩
theorem d_prog_4_method_11_4 : Dec prog_4_method_11_code 4 (.areturn) 1 5 := ⟨by decide +kernel, rfl⟩
set_option maxRecDepth 65536 in
set_option maxHeartbeats 40000000 in
theorem c_gk (l : Launch) (Z : State) (a0 : Array Value) (hw : ∀ d ∈ tables_1, d.before a0 Z = true) (hE : EW Z a0 EL0) {n0 : Nat} {h0 : Heap} (hO : Old Z n0 h0) {a arr : Addr} {kv bv : Value} {rs : Int32} (M : AMs Z h0 a kv arr rs bv) (hkv : kv = .null ∨ ∃ r, kv = .ref r) :
    Ctr NW EL0 n0 Z [] l (⟨"com/example/trestle/trestle/action/ActionMessage", "getKey", "()Ljava/lang/String;"⟩ : MethodName) prog_4_method_11_code 1 (some (.object "java/lang/String")) ({ frames := 0, cells := 0, slots := 0, locals := 0 } : Room) #[.ref a] h0 (RV fun w h => kv = w ∧ h0 = h) := by
  refine Ctr.body pn_2 hE hO (fun x q => nomatch q) (L0 := #[.val (.ref a)]) (fun m => by first | (simp [entryFrame, mkF, argsToLocals, Value.category, maxLocals]; done) | rfl) ?_
  intro p e s m below meth c T0 W0
  refine Go.aload_n W0.cx d_prog_4_method_11_0 (v := (.ref a)) rfl rfl ?_
  refine Go.getf W0 d_prog_4_method_11_1 (wd hw 61 rfl) Via.refl M.2.1 ?_
  intro T1 W1
  exact Go.aret W1 d_prog_4_method_11_4 rfl (or_is hkv) (or_nf hkv _).1 (by decide) (by decide) ⟨_, rfl, rfl, rfl⟩
theorem d_prog_4_method_13_0 : Dec prog_4_method_13_code 0 (.aload_n 0) 1 1 := ⟨by decide +kernel, rfl⟩
theorem d_prog_4_method_13_1 : Dec prog_4_method_13_code 1 (.getfield 31) 3 4 := ⟨by decide +kernel, rfl⟩
theorem d_prog_4_method_13_4 : Dec prog_4_method_13_code 4 (.ireturn) 1 5 := ⟨by decide +kernel, rfl⟩
set_option maxRecDepth 65536 in
set_option maxHeartbeats 40000000 in
theorem c_gr (l : Launch) (Z : State) (a0 : Array Value) (hw : ∀ d ∈ tables_1, d.before a0 Z = true) (hE : EW Z a0 EL0) {n0 : Nat} {h0 : Heap} (hO : Old Z n0 h0) {a arr : Addr} {kv bv : Value} {rs : Int32} (M : AMs Z h0 a kv arr rs bv) (hrs : B01 rs) :
    Ctr NW EL0 n0 Z [] l (⟨"com/example/trestle/trestle/action/ActionMessage", "isResource", "()Z"⟩ : MethodName) prog_4_method_13_code 1 (some .boolean) ({ frames := 0, cells := 0, slots := 0, locals := 0 } : Room) #[.ref a] h0 (RV fun w h => w = .int rs ∧ h0 = h) := by
  refine Ctr.body pn_2 hE hO (fun x q => nomatch q) (L0 := #[.val (.ref a)]) (fun m => by first | (simp [entryFrame, mkF, argsToLocals, Value.category, maxLocals]; done) | rfl) ?_
  intro p e s m below meth c T0 W0
  refine Go.aload_n W0.cx d_prog_4_method_13_0 (v := (.ref a)) rfl rfl ?_
  refine Go.getf W0 d_prog_4_method_13_1 (wd hw 65 rfl) Via.refl M.2.2.2.1 ?_
  intro T1 W1
  exact Go.iret W1 d_prog_4_method_13_4 (by simp) hrs.1 (by decide) (by decide) ⟨_, rfl, rfl, rfl⟩
theorem d_prog_4_method_12_0 : Dec prog_4_method_12_code 0 (.aload_n 0) 1 1 := ⟨by decide +kernel, rfl⟩
theorem d_prog_4_method_12_1 : Dec prog_4_method_12_code 1 (.getfield 28) 3 4 := ⟨by decide +kernel, rfl⟩
theorem d_prog_4_method_12_4 : Dec prog_4_method_12_code 4 (.invokevirtual 12) 3 7 := ⟨by decide +kernel, rfl⟩
theorem d_prog_4_method_12_7 : Dec prog_4_method_12_code 7 (.checkcast 13) 3 10 := ⟨by decide +kernel, rfl⟩
theorem d_prog_4_method_12_10 : Dec prog_4_method_12_code 10 (.areturn) 1 11 := ⟨by decide +kernel, rfl⟩
set_option maxRecDepth 65536 in
set_option maxHeartbeats 40000000 in
theorem c_gv (l : Launch) (Z : State) (a0 : Array Value) (hw : ∀ d ∈ tables_1, d.before a0 Z = true) (hE : EW Z a0 EL0) {n0 : Nat} {h0 : Heap} (hO : Old Z n0 h0) {a arr : Addr} {kv bv : Value} {rs : Int32} (M : AMs Z h0 a kv arr rs bv) :
    Ctr NW EL0 n0 Z [] l (⟨"com/example/trestle/trestle/action/ActionMessage", "getValues", "()[Ljava/lang/Object;"⟩ : MethodName) prog_4_method_12_code 1 (some (.array (.object "java/lang/Object"))) ({ frames := 1, cells := 1, slots := 0, locals := 14 } : Room) #[.ref a] h0 (RV fun w h => ∃ b, w = .ref b ∧ Ext h0 h ∧ OArr Z h b "java/lang/Object" "[Ljava/lang/Object;") := by
  refine Ctr.body pn_2 hE hO (fun x q => nomatch q) (L0 := #[.val (.ref a)]) (fun m => by first | (simp [entryFrame, mkF, argsToLocals, Value.category, maxLocals]; done) | rfl) ?_
  intro p e s m below meth c T0 W0
  refine Go.aload_n W0.cx d_prog_4_method_12_0 (v := (.ref a)) rfl rfl ?_
  refine Go.getf W0 d_prog_4_method_12_1 (wd hw 63 rfl) Via.refl M.2.2.1 ?_
  intro T1 W1
  refine Go.clone0 W1 d_prog_4_method_12_4 (wd hw 48 rfl) (wd hw 49 rfl) (wd hw 53 rfl) (wd hw 51 rfl) (wd hw 52 rfl) (wd hw 54 rfl) M.2.2.2.2.2 rfl (by decide) (wt := 0) (Nat.le_of_eq rfl) (by decide) (cells' := 1) rfl (by decide) (by decide) ?_
  intro T2 h2 a2 g2 W2 E2 O2
  refine Go.cast W2 d_prog_4_method_12_7 (wd hw 55 rfl) (Ins.self O2.exa) ?_
  intro T3 W3
  exact Go.aret W3 d_prog_4_method_12_10 rfl rfl rfl (by decide) (by decide) ⟨_, rfl, a2, rfl, E2, O2⟩
theorem d_method_3_0 : Dec method_3_code 0 (.aload_n 0) 1 1 := ⟨by decide +kernel, rfl⟩
theorem d_method_3_1 : Dec method_3_code 1 (.ifnonnull 13) 3 4 := ⟨by decide +kernel, rfl⟩
theorem d_method_3_4 : Dec method_3_code 4 (.aload_n 1) 1 5 := ⟨by decide +kernel, rfl⟩
theorem d_method_3_5 : Dec method_3_code 5 (.ifnonnull 7) 3 8 := ⟨by decide +kernel, rfl⟩
theorem d_method_3_8 : Dec method_3_code 8 (.iconst 1) 1 9 := ⟨by decide +kernel, rfl⟩
theorem d_method_3_9 : Dec method_3_code 9 (.goto 4) 3 12 := ⟨by decide +kernel, rfl⟩
theorem d_method_3_13 : Dec method_3_code 13 (.ireturn) 1 14 := ⟨by decide +kernel, rfl⟩
set_option maxRecDepth 65536 in
set_option maxHeartbeats 40000000 in
theorem c_same0 (l : Launch) (Z : State) (a0 : Array Value) (hw : ∀ d ∈ tables_1, d.before a0 Z = true) (hE : EW Z a0 EL0) {n0 : Nat} {h0 : Heap} (hO : Old Z n0 h0)  :
    Ctr NW EL0 n0 Z [] l (⟨"com/example/trestle/trestle/action/ActionMessageWithBundlePinLaw", "same", "(Ljava/lang/String;Ljava/lang/String;)Z"⟩ : MethodName) method_3_code 2 (some .boolean) ({ frames := 0, cells := 0, slots := 0, locals := 0 } : Room) #[.null, .null] h0 (RV fun w h => w = .int 1 ∧ h0 = h) := by
  refine Ctr.body pn_1 hE hO (fun x q => nomatch q) (L0 := #[.val .null, .val .null]) (fun m => by first | (simp [entryFrame, mkF, argsToLocals, Value.category, maxLocals]; done) | rfl) ?_
  intro p e s m below meth c T0 W0
  refine Go.aload_n W0.cx d_method_3_0 (v := .null) rfl rfl ?_
  refine Go.ifnonnull_n W0.cx d_method_3_1 ?_
  refine Go.aload_n W0.cx d_method_3_4 (v := .null) rfl rfl ?_
  refine Go.ifnonnull_n W0.cx d_method_3_5 ?_
  refine Go.iconst W0.cx d_method_3_8 (z := (1 : Int32)) rfl ?_
  refine Go.goto W0.cx d_method_3_9 (by decide) (q := 13) rfl ?_
  exact Go.iret W0 d_method_3_13 (by simp) rfl (by decide) (by decide) ⟨_, rfl, rfl, rfl⟩
theorem d_jdk_42_method_66_0 : Dec jdk_42_method_66_code 0 (.aload_n 0) 1 1 := ⟨by decide +kernel, rfl⟩
theorem d_jdk_42_method_66_1 : Dec jdk_42_method_66_code 1 (.aload_n 1) 1 2 := ⟨by decide +kernel, rfl⟩
theorem d_jdk_42_method_66_2 : Dec jdk_42_method_66_code 2 (.if_acmp .ne 5) 3 5 := ⟨by decide +kernel, rfl⟩
theorem d_jdk_42_method_66_5 : Dec jdk_42_method_66_code 5 (.iconst 1) 1 6 := ⟨by decide +kernel, rfl⟩
theorem d_jdk_42_method_66_6 : Dec jdk_42_method_66_code 6 (.ireturn) 1 7 := ⟨by decide +kernel, rfl⟩
set_option maxRecDepth 65536 in
set_option maxHeartbeats 40000000 in
theorem c_eqid (l : Launch) (Z : State) (a0 : Array Value) (hw : ∀ d ∈ tables_1, d.before a0 Z = true) (hE : EW Z a0 EL0) {n0 : Nat} {h0 : Heap} (hO : Old Z n0 h0) (r : Addr) :
    Ctr NW EL0 n0 Z [] l (⟨"java/lang/String", "equals", "(Ljava/lang/Object;)Z"⟩ : MethodName) jdk_42_method_66_code 3 (some .boolean) ({ frames := 0, cells := 0, slots := 0, locals := 0 } : Room) #[.ref r, .ref r] h0 (RV fun w h => w = .int 1 ∧ h0 = h) := by
  refine Ctr.body pn_0 hE hO (fun x q => nomatch q) (L0 := #[.val (.ref r), .val (.ref r), .unset]) (fun m => by first | (simp [entryFrame, mkF, argsToLocals, Value.category, maxLocals]; done) | rfl) ?_
  intro p e s m below meth c T0 W0
  refine Go.aload_n W0.cx d_jdk_42_method_66_0 (v := (.ref r)) rfl rfl ?_
  refine Go.aload_n W0.cx d_jdk_42_method_66_1 (v := (.ref r)) rfl rfl ?_
  refine Go.acne W0.cx d_jdk_42_method_66_2 rfl rfl (by decide) (q := 7) rfl (fun hh => (by first | exact absurd (rfl : (Value.ref r) = .ref r) hh | exact absurd hh (rfl : (Value.ref r) = .ref r))) (fun _ => ?_)
  refine Go.iconst W0.cx d_jdk_42_method_66_5 (z := (1 : Int32)) rfl ?_
  exact Go.iret W0 d_jdk_42_method_66_6 (by simp) rfl (by decide) (by decide) ⟨_, rfl, rfl, rfl⟩
theorem d_method_3_14 : Dec method_3_code 14 (.aload_n 0) 1 15 := ⟨by decide +kernel, rfl⟩
theorem d_method_3_15 : Dec method_3_code 15 (.aload_n 1) 1 16 := ⟨by decide +kernel, rfl⟩
theorem d_method_3_16 : Dec method_3_code 16 (.invokevirtual 41) 3 19 := ⟨by decide +kernel, rfl⟩
theorem pd_4 : parseMethodDescriptor "(Ljava/lang/Object;)Z" = some ⟨[(.object "java/lang/Object")], some .boolean⟩ := by decide +kernel
theorem d_method_3_19 : Dec method_3_code 19 (.ireturn) 1 20 := ⟨by decide +kernel, rfl⟩
set_option maxRecDepth 65536 in
set_option maxHeartbeats 40000000 in
theorem c_same1 (l : Launch) (Z : State) (a0 : Array Value) (hw : ∀ d ∈ tables_1, d.before a0 Z = true) (hE : EW Z a0 EL0) {n0 : Nat} {h0 : Heap} (hO : Old Z n0 h0) (hG : Gl Z) {r : Addr} {cs : List Int32} (S : Str Z h0 r cs) :
    Ctr NW EL0 n0 Z [] l (⟨"com/example/trestle/trestle/action/ActionMessageWithBundlePinLaw", "same", "(Ljava/lang/String;Ljava/lang/String;)Z"⟩ : MethodName) method_3_code 2 (some .boolean) ({ frames := 2, cells := 0, slots := 0, locals := 28 } : Room) #[.ref r, .ref r] h0 (RV fun w h => w = .int 1 ∧ h0 = h) := by
  refine Ctr.body pn_1 hE hO (fun x q => nomatch q) (L0 := #[.val (.ref r), .val (.ref r)]) (fun m => by first | (simp [entryFrame, mkF, argsToLocals, Value.category, maxLocals]; done) | rfl) ?_
  intro p e s m below meth c T0 W0
  refine Go.aload_n W0.cx d_method_3_0 (v := (.ref r)) rfl rfl ?_
  refine Go.ifnonnull_y W0.cx d_method_3_1 (by decide) (q := 14) rfl ?_
  refine Go.aload_n W0.cx d_method_3_14 (v := (.ref r)) rfl rfl ?_
  refine Go.aload_n W0.cx d_method_3_15 (v := (.ref r)) rfl rfl ?_
  refine Go.invv1 W0 (Ctr.call (wt := 0) (c_eqid l Z a0 hw hE W0.old r) W0.ew (wd hw 87 rfl) (wd hw 6 rfl) (by simp) (by decide) (by decide)) d_method_3_16 (wd hw 83 rfl) (wd hw 84 rfl) (wd hw 86 rfl) (wd hw 85 rfl) (by decide) S.exa pd_4 rfl rfl (rest := []) rfl (Nat.le_of_eq rfl) (cells' := 0) (slots' := 0) rfl rfl (by decide) (by decide) ?_
  rintro T1 h1 _ W1 z1 ⟨rfl, e1⟩
  subst e1
  exact Go.iret W1 d_method_3_19 (by simp) rfl (by decide) (by decide) ⟨_, rfl, rfl, rfl⟩
theorem c_same (l : Launch) (Z : State) (a0 : Array Value) (hw : ∀ d ∈ tables_1, d.before a0 Z = true) (hE : EW Z a0 EL0) {n0 : Nat} {h0 : Heap} (hO : Old Z n0 h0) (hG : Gl Z) {v : Value} (N : NS Z h0 v) {p : Program} {e : Env} {R : Room} {s : State} {args : Array Value} {below : List Frame} {xs : List Addr} {wt : Nat} (hf : 3 ≤ R.frames) (hl : wt + 41 ≤ R.locals) :
    Call NW EL0 n0 Z xs l R p e below s args (⟨"com/example/trestle/trestle/action/ActionMessageWithBundlePinLaw", "same", "(Ljava/lang/String;Ljava/lang/String;)Z"⟩ : MethodName) 3 wt #[v, v] h0 0 0 (RV fun w h => w = .int 1 ∧ h0 = h) := by
  rcases N with rfl | ⟨r, rfl, cs, S⟩
  · exact Ctr.call (c_same0 l Z a0 hw hE hO) hE (wd hw 82 rfl) (wd hw 2 rfl) (fun _ q => nomatch q) (show 0 + 1 ≤ R.frames by omega) (show wt + (2 + 11) + 0 ≤ R.locals by omega)
  · exact Ctr.call (c_same1 l Z a0 hw hE hO hG S) hE (wd hw 82 rfl) (wd hw 2 rfl) (fun _ q => nomatch q) (show 2 + 1 ≤ R.frames by omega) (show wt + (2 + 11) + 28 ≤ R.locals by omega)
theorem d_code_0 : Dec code 0 (.iload_n 3) 1 1 := ⟨by decide +kernel, rfl⟩
theorem d_code_1 : Dec code 1 (.iconst 1) 1 2 := ⟨by decide +kernel, rfl⟩
theorem d_code_2 : Dec code 2 (.iand) 1 3 := ⟨by decide +kernel, rfl⟩
theorem d_code_11 : Dec code 11 (.istore 4) 2 13 := ⟨by decide +kernel, rfl⟩
theorem d_code_13 : Dec code 13 (.iload_n 3) 1 14 := ⟨by decide +kernel, rfl⟩
theorem d_code_14 : Dec code 14 (.iconst 2) 1 15 := ⟨by decide +kernel, rfl⟩
theorem d_code_15 : Dec code 15 (.iand) 1 16 := ⟨by decide +kernel, rfl⟩
theorem d_code_24 : Dec code 24 (.istore 5) 2 26 := ⟨by decide +kernel, rfl⟩
theorem d_code_26 : Dec code 26 (.iload_n 3) 1 27 := ⟨by decide +kernel, rfl⟩
theorem d_code_27 : Dec code 27 (.iconst 4) 1 28 := ⟨by decide +kernel, rfl⟩
theorem d_code_28 : Dec code 28 (.iand) 1 29 := ⟨by decide +kernel, rfl⟩
theorem d_code_37 : Dec code 37 (.istore 6) 2 39 := ⟨by decide +kernel, rfl⟩
theorem d_code_39 : Dec code 39 (.iload_n 3) 1 40 := ⟨by decide +kernel, rfl⟩
theorem d_code_40 : Dec code 40 (.bipush 8) 2 42 := ⟨by decide +kernel, rfl⟩
theorem d_code_42 : Dec code 42 (.iand) 1 43 := ⟨by decide +kernel, rfl⟩
theorem d_code_51 : Dec code 51 (.istore 7) 2 53 := ⟨by decide +kernel, rfl⟩
theorem d_code_53 : Dec code 53 (.iload_n 3) 1 54 := ⟨by decide +kernel, rfl⟩
theorem d_code_54 : Dec code 54 (.bipush 16) 2 56 := ⟨by decide +kernel, rfl⟩
theorem d_code_56 : Dec code 56 (.iand) 1 57 := ⟨by decide +kernel, rfl⟩
theorem d_code_65 : Dec code 65 (.istore 8) 2 67 := ⟨by decide +kernel, rfl⟩
theorem d_code_67 : Dec code 67 (.iload 5) 2 69 := ⟨by decide +kernel, rfl⟩
theorem d_code_80 : Dec code 80 (.astore 9) 2 82 := ⟨by decide +kernel, rfl⟩
theorem d_code_82 : Dec code 82 (.iload 6) 2 84 := ⟨by decide +kernel, rfl⟩
theorem d_code_95 : Dec code 95 (.astore 10) 2 97 := ⟨by decide +kernel, rfl⟩
theorem d_code_97 : Dec code 97 (.iload 7) 2 99 := ⟨by decide +kernel, rfl⟩
theorem d_code_110 : Dec code 110 (.astore 11) 2 112 := ⟨by decide +kernel, rfl⟩
theorem d_code_112 : Dec code 112 (.new 13) 3 115 := ⟨by decide +kernel, rfl⟩
theorem d_code_115 : Dec code 115 (.dup) 1 116 := ⟨by decide +kernel, rfl⟩
theorem d_code_116 : Dec code 116 (.aload 9) 2 118 := ⟨by decide +kernel, rfl⟩
theorem d_code_118 : Dec code 118 (.iload 4) 2 120 := ⟨by decide +kernel, rfl⟩
theorem d_code_120 : Dec code 120 (.invokespecial 15) 3 123 := ⟨by decide +kernel, rfl⟩
theorem pd_5 : parseMethodDescriptor "(Ljava/lang/String;Z)V" = some ⟨[(.object "java/lang/String"), .boolean], none⟩ := by decide +kernel
theorem d_code_123 : Dec code 123 (.astore 12) 2 125 := ⟨by decide +kernel, rfl⟩
theorem d_code_125 : Dec code 125 (.iload 8) 2 127 := ⟨by decide +kernel, rfl⟩
theorem d_code_127 : Dec code 127 (.ifCond .eq 13) 3 130 := ⟨by decide +kernel, rfl⟩
theorem d_code_140 : Dec code 140 (.aload 12) 2 142 := ⟨by decide +kernel, rfl⟩
theorem d_code_142 : Dec code 142 (.astore 13) 2 144 := ⟨by decide +kernel, rfl⟩
theorem d_code_144 : Dec code 144 (.iload 8) 2 146 := ⟨by decide +kernel, rfl⟩
theorem d_code_146 : Dec code 146 (.ifCond .eq 8) 3 149 := ⟨by decide +kernel, rfl⟩
theorem d_code_154 : Dec code 154 (.aconst_null) 1 155 := ⟨by decide +kernel, rfl⟩
theorem d_code_155 : Dec code 155 (.astore 14) 2 157 := ⟨by decide +kernel, rfl⟩
theorem d_code_157 : Dec code 157 (.aload 13) 2 159 := ⟨by decide +kernel, rfl⟩
theorem d_code_159 : Dec code 159 (.aload 11) 2 161 := ⟨by decide +kernel, rfl⟩
theorem d_code_161 : Dec code 161 (.invokevirtual 18) 3 164 := ⟨by decide +kernel, rfl⟩
theorem pd_6 : parseMethodDescriptor "(Ljava/lang/String;)Lcom/example/trestle/trestle/action/ActionMessage;" = some ⟨[(.object "java/lang/String")], some (.object "com/example/trestle/trestle/action/ActionMessage")⟩ := by decide +kernel
theorem d_code_164 : Dec code 164 (.astore 15) 2 166 := ⟨by decide +kernel, rfl⟩
theorem d_code_166 : Dec code 166 (.iconst 1) 1 167 := ⟨by decide +kernel, rfl⟩
theorem d_code_167 : Dec code 167 (.istore 16) 2 169 := ⟨by decide +kernel, rfl⟩
theorem d_code_169 : Dec code 169 (.iload 16) 2 171 := ⟨by decide +kernel, rfl⟩
theorem d_code_171 : Dec code 171 (.ifCond .eq 20) 3 174 := ⟨by decide +kernel, rfl⟩
theorem d_code_174 : Dec code 174 (.aload 15) 2 176 := ⟨by decide +kernel, rfl⟩
theorem d_code_176 : Dec code 176 (.invokevirtual 22) 3 179 := ⟨by decide +kernel, rfl⟩
theorem pd_7 : parseMethodDescriptor "()Ljava/lang/String;" = some ⟨[], some (.object "java/lang/String")⟩ := by decide +kernel
theorem d_code_179 : Dec code 179 (.aload 11) 2 181 := ⟨by decide +kernel, rfl⟩
theorem d_code_181 : Dec code 181 (.invokestatic 26) 3 184 := ⟨by decide +kernel, rfl⟩
theorem pd_8 : parseMethodDescriptor "(Ljava/lang/String;Ljava/lang/String;)Z" = some ⟨[(.object "java/lang/String"), (.object "java/lang/String")], some .boolean⟩ := by decide +kernel
theorem d_code_184 : Dec code 184 (.ifCond .eq 7) 3 187 := ⟨by decide +kernel, rfl⟩
theorem d_code_187 : Dec code 187 (.iconst 1) 1 188 := ⟨by decide +kernel, rfl⟩
theorem d_code_188 : Dec code 188 (.goto 4) 3 191 := ⟨by decide +kernel, rfl⟩
theorem d_code_192 : Dec code 192 (.istore 16) 2 194 := ⟨by decide +kernel, rfl⟩
theorem d_code_194 : Dec code 194 (.iload 16) 2 196 := ⟨by decide +kernel, rfl⟩
theorem d_code_196 : Dec code 196 (.ifCond .eq 20) 3 199 := ⟨by decide +kernel, rfl⟩
theorem d_code_199 : Dec code 199 (.aload 15) 2 201 := ⟨by decide +kernel, rfl⟩
theorem d_code_201 : Dec code 201 (.invokevirtual 30) 3 204 := ⟨by decide +kernel, rfl⟩
theorem d_code_204 : Dec code 204 (.aload 9) 2 206 := ⟨by decide +kernel, rfl⟩
theorem d_code_206 : Dec code 206 (.invokestatic 26) 3 209 := ⟨by decide +kernel, rfl⟩
theorem d_code_209 : Dec code 209 (.ifCond .eq 7) 3 212 := ⟨by decide +kernel, rfl⟩
theorem d_code_212 : Dec code 212 (.iconst 1) 1 213 := ⟨by decide +kernel, rfl⟩
theorem d_code_213 : Dec code 213 (.goto 4) 3 216 := ⟨by decide +kernel, rfl⟩
theorem d_code_217 : Dec code 217 (.istore 16) 2 219 := ⟨by decide +kernel, rfl⟩
theorem d_code_219 : Dec code 219 (.iload 16) 2 221 := ⟨by decide +kernel, rfl⟩
theorem d_code_221 : Dec code 221 (.ifCond .eq 17) 3 224 := ⟨by decide +kernel, rfl⟩
theorem d_code_224 : Dec code 224 (.aload 15) 2 226 := ⟨by decide +kernel, rfl⟩
theorem d_code_226 : Dec code 226 (.invokevirtual 33) 3 229 := ⟨by decide +kernel, rfl⟩
theorem pd_9 : parseMethodDescriptor "()Z" = some ⟨[], some .boolean⟩ := by decide +kernel
theorem d_code_229 : Dec code 229 (.iload 4) 2 231 := ⟨by decide +kernel, rfl⟩
theorem d_code_231 : Dec code 231 (.if_icmp .ne 7) 3 234 := ⟨by decide +kernel, rfl⟩
theorem d_code_234 : Dec code 234 (.iconst 1) 1 235 := ⟨by decide +kernel, rfl⟩
theorem d_code_235 : Dec code 235 (.goto 4) 3 238 := ⟨by decide +kernel, rfl⟩
theorem d_code_239 : Dec code 239 (.istore 16) 2 241 := ⟨by decide +kernel, rfl⟩
theorem d_code_241 : Dec code 241 (.iload 16) 2 243 := ⟨by decide +kernel, rfl⟩
theorem d_code_243 : Dec code 243 (.ifCond .eq 16) 3 246 := ⟨by decide +kernel, rfl⟩
theorem d_code_246 : Dec code 246 (.aload 15) 2 248 := ⟨by decide +kernel, rfl⟩
theorem d_code_248 : Dec code 248 (.invokevirtual 37) 3 251 := ⟨by decide +kernel, rfl⟩
theorem pd_10 : parseMethodDescriptor "()[Ljava/lang/Object;" = some ⟨[], some (.array (.object "java/lang/Object"))⟩ := by decide +kernel
theorem d_code_251 : Dec code 251 (.arraylength) 1 252 := ⟨by decide +kernel, rfl⟩
theorem d_code_252 : Dec code 252 (.ifCond .ne 7) 3 255 := ⟨by decide +kernel, rfl⟩
theorem d_code_255 : Dec code 255 (.iconst 1) 1 256 := ⟨by decide +kernel, rfl⟩
theorem d_code_256 : Dec code 256 (.goto 4) 3 259 := ⟨by decide +kernel, rfl⟩
theorem d_code_260 : Dec code 260 (.istore 16) 2 262 := ⟨by decide +kernel, rfl⟩
theorem d_code_262 : Dec code 262 (.iload 16) 2 264 := ⟨by decide +kernel, rfl⟩
theorem d_code_264 : Dec code 264 (.ifCond .eq 20) 3 267 := ⟨by decide +kernel, rfl⟩
theorem d_code_267 : Dec code 267 (.aload 13) 2 269 := ⟨by decide +kernel, rfl⟩
theorem d_code_269 : Dec code 269 (.invokevirtual 22) 3 272 := ⟨by decide +kernel, rfl⟩
theorem d_code_272 : Dec code 272 (.aload 14) 2 274 := ⟨by decide +kernel, rfl⟩
theorem d_code_274 : Dec code 274 (.invokestatic 26) 3 277 := ⟨by decide +kernel, rfl⟩
theorem d_code_277 : Dec code 277 (.ifCond .eq 7) 3 280 := ⟨by decide +kernel, rfl⟩
theorem d_code_280 : Dec code 280 (.iconst 1) 1 281 := ⟨by decide +kernel, rfl⟩
theorem d_code_281 : Dec code 281 (.goto 4) 3 284 := ⟨by decide +kernel, rfl⟩
theorem d_code_285 : Dec code 285 (.istore 16) 2 287 := ⟨by decide +kernel, rfl⟩
theorem d_code_287 : Dec code 287 (.iload 16) 2 289 := ⟨by decide +kernel, rfl⟩
theorem d_code_289 : Dec code 289 (.ifCond .eq 15) 3 292 := ⟨by decide +kernel, rfl⟩
theorem d_code_292 : Dec code 292 (.aload 12) 2 294 := ⟨by decide +kernel, rfl⟩
theorem d_code_294 : Dec code 294 (.invokevirtual 22) 3 297 := ⟨by decide +kernel, rfl⟩
theorem d_code_297 : Dec code 297 (.ifnonnull 7) 3 300 := ⟨by decide +kernel, rfl⟩
theorem d_code_300 : Dec code 300 (.iconst 1) 1 301 := ⟨by decide +kernel, rfl⟩
theorem d_code_301 : Dec code 301 (.goto 4) 3 304 := ⟨by decide +kernel, rfl⟩
theorem d_code_305 : Dec code 305 (.istore 16) 2 307 := ⟨by decide +kernel, rfl⟩
theorem d_code_307 : Dec code 307 (.iload 16) 2 309 := ⟨by decide +kernel, rfl⟩
theorem d_code_309 : Dec code 309 (.ireturn) 1 310 := ⟨by decide +kernel, rfl⟩
theorem d_code_130 : Dec code 130 (.aload 12) 2 132 := ⟨by decide +kernel, rfl⟩
theorem d_code_132 : Dec code 132 (.aload 10) 2 134 := ⟨by decide +kernel, rfl⟩
theorem d_code_134 : Dec code 134 (.invokevirtual 18) 3 137 := ⟨by decide +kernel, rfl⟩
theorem d_code_137 : Dec code 137 (.goto 5) 3 140 := ⟨by decide +kernel, rfl⟩
theorem d_code_149 : Dec code 149 (.aload 10) 2 151 := ⟨by decide +kernel, rfl⟩
theorem d_code_151 : Dec code 151 (.goto 4) 3 154 := ⟨by decide +kernel, rfl⟩
theorem d_code_99 : Dec code 99 (.ifCond .eq 7) 3 102 := ⟨by decide +kernel, rfl⟩
theorem d_code_106 : Dec code 106 (.iload_n 2) 1 107 := ⟨by decide +kernel, rfl⟩
theorem d_code_107 : Dec code 107 (.invokestatic 7) 3 110 := ⟨by decide +kernel, rfl⟩
theorem pd_11 : parseMethodDescriptor "(I)Ljava/lang/String;" = some ⟨[.int], some (.object "java/lang/String")⟩ := by decide +kernel
theorem d_code_102 : Dec code 102 (.aconst_null) 1 103 := ⟨by decide +kernel, rfl⟩
theorem d_code_103 : Dec code 103 (.goto 7) 3 106 := ⟨by decide +kernel, rfl⟩
theorem d_code_84 : Dec code 84 (.ifCond .eq 7) 3 87 := ⟨by decide +kernel, rfl⟩
theorem d_code_91 : Dec code 91 (.iload_n 1) 1 92 := ⟨by decide +kernel, rfl⟩
theorem d_code_92 : Dec code 92 (.invokestatic 7) 3 95 := ⟨by decide +kernel, rfl⟩
theorem d_code_87 : Dec code 87 (.aconst_null) 1 88 := ⟨by decide +kernel, rfl⟩
theorem d_code_88 : Dec code 88 (.goto 7) 3 91 := ⟨by decide +kernel, rfl⟩
theorem d_code_69 : Dec code 69 (.ifCond .eq 7) 3 72 := ⟨by decide +kernel, rfl⟩
theorem d_code_76 : Dec code 76 (.iload_n 0) 1 77 := ⟨by decide +kernel, rfl⟩
theorem d_code_77 : Dec code 77 (.invokestatic 7) 3 80 := ⟨by decide +kernel, rfl⟩
theorem d_code_72 : Dec code 72 (.aconst_null) 1 73 := ⟨by decide +kernel, rfl⟩
theorem d_code_73 : Dec code 73 (.goto 7) 3 76 := ⟨by decide +kernel, rfl⟩
theorem d_code_57 : Dec code 57 (.ifCond .eq 7) 3 60 := ⟨by decide +kernel, rfl⟩
theorem d_code_64 : Dec code 64 (.iconst 0) 1 65 := ⟨by decide +kernel, rfl⟩
theorem d_code_60 : Dec code 60 (.iconst 1) 1 61 := ⟨by decide +kernel, rfl⟩
theorem d_code_61 : Dec code 61 (.goto 4) 3 64 := ⟨by decide +kernel, rfl⟩
theorem d_code_43 : Dec code 43 (.ifCond .eq 7) 3 46 := ⟨by decide +kernel, rfl⟩
theorem d_code_50 : Dec code 50 (.iconst 0) 1 51 := ⟨by decide +kernel, rfl⟩
theorem d_code_46 : Dec code 46 (.iconst 1) 1 47 := ⟨by decide +kernel, rfl⟩
theorem d_code_47 : Dec code 47 (.goto 4) 3 50 := ⟨by decide +kernel, rfl⟩
theorem d_code_29 : Dec code 29 (.ifCond .eq 7) 3 32 := ⟨by decide +kernel, rfl⟩
theorem d_code_36 : Dec code 36 (.iconst 0) 1 37 := ⟨by decide +kernel, rfl⟩
theorem d_code_32 : Dec code 32 (.iconst 1) 1 33 := ⟨by decide +kernel, rfl⟩
theorem d_code_33 : Dec code 33 (.goto 4) 3 36 := ⟨by decide +kernel, rfl⟩
theorem d_code_16 : Dec code 16 (.ifCond .eq 7) 3 19 := ⟨by decide +kernel, rfl⟩
theorem d_code_23 : Dec code 23 (.iconst 0) 1 24 := ⟨by decide +kernel, rfl⟩
theorem d_code_19 : Dec code 19 (.iconst 1) 1 20 := ⟨by decide +kernel, rfl⟩
theorem d_code_20 : Dec code 20 (.goto 4) 3 23 := ⟨by decide +kernel, rfl⟩
theorem d_code_3 : Dec code 3 (.ifCond .eq 7) 3 6 := ⟨by decide +kernel, rfl⟩
theorem d_code_10 : Dec code 10 (.iconst 0) 1 11 := ⟨by decide +kernel, rfl⟩
theorem d_code_6 : Dec code 6 (.iconst 1) 1 7 := ⟨by decide +kernel, rfl⟩
theorem d_code_7 : Dec code 7 (.goto 4) 3 10 := ⟨by decide +kernel, rfl⟩
set_option maxRecDepth 65536 in
set_option maxHeartbeats 40000000 in
theorem c_law (l : Launch) (Z : State) (a0 : Array Value) (hw : ∀ d ∈ tables_1, d.before a0 Z = true) (hE : EW Z a0 EL0) {n0 : Nat} {h0 : Heap} (hO : Old Z n0 h0) (hG : Gl Z) (i0 i1 i2 i3 : Int32) :
    Ctr NW EL0 n0 Z [] l x code maxLocals ret room_1 #[.int i0, .int i1, .int i2, .int i3] h0 (RV fun w h => w = .int 1) := by
  refine Ctr.body pn_1 hE hO (fun x q => nomatch q) (L0 := #[.val (.int i0), .val (.int i1), .val (.int i2), .val (.int i3), .unset, .unset, .unset, .unset, .unset, .unset, .unset, .unset, .unset, .unset, .unset, .unset, .unset]) (fun m => by first | (simp [entryFrame, mkF, argsToLocals, Value.category, maxLocals]; done) | rfl) ?_
  intro p e s m below meth c T0 W0
  refine Go.iload_n W0.cx d_code_0 (v := i3) rfl ?_
  refine Go.iconst W0.cx d_code_1 (z := (1 : Int32)) rfl ?_
  refine Go.iand W0.cx d_code_2 ?_
  obtain ⟨b4, hb4⟩ : ∃ z : Int32, z = if i3 &&& (1 : Int32) = 0 then 0 else 1 := ⟨_, rfl⟩
  have J1 : Go p e below (Endp NW EL0 n0 Z below s room_1.cells room_1.slots (RV fun w h => w = .int 1)) T0 (mkF m 11 #[.val (.int i0), .val (.int i1), .val (.int i2), .val (.int i3), .unset, .unset, .unset, .unset, .unset, .unset, .unset, .unset, .unset, .unset, .unset, .unset, .unset] [(.int b4)]) := by
    refine Go.istore W0.cx d_code_11 (L' := #[.val (.int i0), .val (.int i1), .val (.int i2), .val (.int i3), .val (.int b4), .unset, .unset, .unset, .unset, .unset, .unset, .unset, .unset, .unset, .unset, .unset, .unset]) rfl ?_
    refine Go.iload_n W0.cx d_code_13 (v := i3) rfl ?_
    refine Go.iconst W0.cx d_code_14 (z := (2 : Int32)) rfl ?_
    refine Go.iand W0.cx d_code_15 ?_
    obtain ⟨b5, hb5⟩ : ∃ z : Int32, z = if i3 &&& (2 : Int32) = 0 then 0 else 1 := ⟨_, rfl⟩
    have J2 : Go p e below (Endp NW EL0 n0 Z below s room_1.cells room_1.slots (RV fun w h => w = .int 1)) T0 (mkF m 24 #[.val (.int i0), .val (.int i1), .val (.int i2), .val (.int i3), .val (.int b4), .unset, .unset, .unset, .unset, .unset, .unset, .unset, .unset, .unset, .unset, .unset, .unset] [(.int b5)]) := by
      refine Go.istore W0.cx d_code_24 (L' := #[.val (.int i0), .val (.int i1), .val (.int i2), .val (.int i3), .val (.int b4), .val (.int b5), .unset, .unset, .unset, .unset, .unset, .unset, .unset, .unset, .unset, .unset, .unset]) rfl ?_
      refine Go.iload_n W0.cx d_code_26 (v := i3) rfl ?_
      refine Go.iconst W0.cx d_code_27 (z := (4 : Int32)) rfl ?_
      refine Go.iand W0.cx d_code_28 ?_
      obtain ⟨b6, hb6⟩ : ∃ z : Int32, z = if i3 &&& (4 : Int32) = 0 then 0 else 1 := ⟨_, rfl⟩
      have J3 : Go p e below (Endp NW EL0 n0 Z below s room_1.cells room_1.slots (RV fun w h => w = .int 1)) T0 (mkF m 37 #[.val (.int i0), .val (.int i1), .val (.int i2), .val (.int i3), .val (.int b4), .val (.int b5), .unset, .unset, .unset, .unset, .unset, .unset, .unset, .unset, .unset, .unset, .unset] [(.int b6)]) := by
        refine Go.istore W0.cx d_code_37 (L' := #[.val (.int i0), .val (.int i1), .val (.int i2), .val (.int i3), .val (.int b4), .val (.int b5), .val (.int b6), .unset, .unset, .unset, .unset, .unset, .unset, .unset, .unset, .unset, .unset]) rfl ?_
        refine Go.iload_n W0.cx d_code_39 (v := i3) rfl ?_
        refine Go.bipush W0.cx d_code_40 (z := (8 : Int32)) rfl ?_
        refine Go.iand W0.cx d_code_42 ?_
        obtain ⟨b7, hb7⟩ : ∃ z : Int32, z = if i3 &&& (8 : Int32) = 0 then 0 else 1 := ⟨_, rfl⟩
        have J4 : Go p e below (Endp NW EL0 n0 Z below s room_1.cells room_1.slots (RV fun w h => w = .int 1)) T0 (mkF m 51 #[.val (.int i0), .val (.int i1), .val (.int i2), .val (.int i3), .val (.int b4), .val (.int b5), .val (.int b6), .unset, .unset, .unset, .unset, .unset, .unset, .unset, .unset, .unset, .unset] [(.int b7)]) := by
          refine Go.istore W0.cx d_code_51 (L' := #[.val (.int i0), .val (.int i1), .val (.int i2), .val (.int i3), .val (.int b4), .val (.int b5), .val (.int b6), .val (.int b7), .unset, .unset, .unset, .unset, .unset, .unset, .unset, .unset, .unset]) rfl ?_
          refine Go.iload_n W0.cx d_code_53 (v := i3) rfl ?_
          refine Go.bipush W0.cx d_code_54 (z := (16 : Int32)) rfl ?_
          refine Go.iand W0.cx d_code_56 ?_
          obtain ⟨b8, hb8⟩ : ∃ z : Int32, z = if i3 &&& (16 : Int32) = 0 then 0 else 1 := ⟨_, rfl⟩
          have J5 : Go p e below (Endp NW EL0 n0 Z below s room_1.cells room_1.slots (RV fun w h => w = .int 1)) T0 (mkF m 65 #[.val (.int i0), .val (.int i1), .val (.int i2), .val (.int i3), .val (.int b4), .val (.int b5), .val (.int b6), .val (.int b7), .unset, .unset, .unset, .unset, .unset, .unset, .unset, .unset, .unset] [(.int b8)]) := by
            refine Go.istore W0.cx d_code_65 (L' := #[.val (.int i0), .val (.int i1), .val (.int i2), .val (.int i3), .val (.int b4), .val (.int b5), .val (.int b6), .val (.int b7), .val (.int b8), .unset, .unset, .unset, .unset, .unset, .unset, .unset, .unset]) rfl ?_
            refine Go.iload W0.cx d_code_67 (v := b5) rfl ?_
            have J6 : ∀ (T6 : State) (h6 : Heap) (vk : Value), Wk NW EL0 n0 Z a0 x.cls x.name code maxLocals ret p l e room_1 s m #[.int i0, .int i1, .int i2, .int i3] below meth c T6 h6 [] 6 12 → Ext h0 h6 → NS Z h6 vk → Go p e below (Endp NW EL0 n0 Z below s room_1.cells room_1.slots (RV fun w h => w = .int 1)) T6 (mkF m 80 #[.val (.int i0), .val (.int i1), .val (.int i2), .val (.int i3), .val (.int b4), .val (.int b5), .val (.int b6), .val (.int b7), .val (.int b8), .unset, .unset, .unset, .unset, .unset, .unset, .unset, .unset] [vk]) := by
              intro T6 h6 vk W6 Xvk Nvk
              refine Go.astore W6.cx d_code_80 (L' := #[.val (.int i0), .val (.int i1), .val (.int i2), .val (.int i3), .val (.int b4), .val (.int b5), .val (.int b6), .val (.int b7), .val (.int b8), .val vk, .unset, .unset, .unset, .unset, .unset, .unset, .unset]) Nvk.is (by rcases Nvk.or with rfl | ⟨_, rfl⟩ <;> rfl) ?_
              refine Go.iload W6.cx d_code_82 (v := b6) rfl ?_
              have J7 : ∀ (T7 : State) (h7 : Heap) (v1 : Value), Wk NW EL0 n0 Z a0 x.cls x.name code maxLocals ret p l e room_1 s m #[.int i0, .int i1, .int i2, .int i3] below meth c T7 h7 [] 12 24 → Ext h6 h7 → NS Z h7 v1 → Go p e below (Endp NW EL0 n0 Z below s room_1.cells room_1.slots (RV fun w h => w = .int 1)) T7 (mkF m 95 #[.val (.int i0), .val (.int i1), .val (.int i2), .val (.int i3), .val (.int b4), .val (.int b5), .val (.int b6), .val (.int b7), .val (.int b8), .val vk, .unset, .unset, .unset, .unset, .unset, .unset, .unset] [v1]) := by
                intro T7 h7 v1 W7 Xv1 Nv1
                have Nvk := Nvk.ext Xv1
                refine Go.astore W7.cx d_code_95 (L' := #[.val (.int i0), .val (.int i1), .val (.int i2), .val (.int i3), .val (.int b4), .val (.int b5), .val (.int b6), .val (.int b7), .val (.int b8), .val vk, .val v1, .unset, .unset, .unset, .unset, .unset, .unset]) Nv1.is (by rcases Nv1.or with rfl | ⟨_, rfl⟩ <;> rfl) ?_
                refine Go.iload W7.cx d_code_97 (v := b7) rfl ?_
                have J8 : ∀ (T8 : State) (h8 : Heap) (v2 : Value), Wk NW EL0 n0 Z a0 x.cls x.name code maxLocals ret p l e room_1 s m #[.int i0, .int i1, .int i2, .int i3] below meth c T8 h8 [] 18 36 → Ext h7 h8 → NS Z h8 v2 → Go p e below (Endp NW EL0 n0 Z below s room_1.cells room_1.slots (RV fun w h => w = .int 1)) T8 (mkF m 110 #[.val (.int i0), .val (.int i1), .val (.int i2), .val (.int i3), .val (.int b4), .val (.int b5), .val (.int b6), .val (.int b7), .val (.int b8), .val vk, .val v1, .unset, .unset, .unset, .unset, .unset, .unset] [v2]) := by
                  intro T8 h8 v2 W8 Xv2 Nv2
                  have Nvk := Nvk.ext Xv2
                  have Nv1 := Nv1.ext Xv2
                  have hB4 : B01 b4 := by rw [hb4]; split <;> exact ⟨rfl, rfl⟩
                  refine Go.astore W8.cx d_code_110 (L' := #[.val (.int i0), .val (.int i1), .val (.int i2), .val (.int i3), .val (.int b4), .val (.int b5), .val (.int b6), .val (.int b7), .val (.int b8), .val vk, .val v1, .val v2, .unset, .unset, .unset, .unset, .unset]) Nv2.is (by rcases Nv2.or with rfl | ⟨_, rfl⟩ <;> rfl) ?_
                  refine Go.new W8 d_code_112 (wd hw 37 rfl) (wd hw 38 rfl) (wd hw 39 rfl) (cells' := 19) (slots' := 40) rfl rfl (by decide) (by decide) ?_
                  intro T9 h9 a9 g9 W9 E9 A9 D9
                  have F9_key := D9 (Or.inr (wd hw 62 rfl)) (t := (.object "java/lang/String")) (by decide)
                  have F9_values := D9 (Or.inr (wd hw 64 rfl)) (t := (.array (.object "java/lang/Object"))) (by decide)
                  have F9_resource := D9 (Or.inr (wd hw 66 rfl)) (t := .boolean) (by decide)
                  have F9_bundle := D9 (Or.inr (wd hw 68 rfl)) (t := (.object "java/lang/String")) (by decide)
                  refine Go.dup W9.cx d_code_115 rfl ?_
                  refine Go.aload W9.cx d_code_116 (v := vk) rfl Nvk.is ?_
                  refine Go.iload W9.cx d_code_118 (v := b4) rfl ?_
                  refine Go.invi W9 (Ctr.call (wt := 1) (c_7 l Z a0 hw hE W9.old Nvk.or hB4 (W9.mine (by simp)).1 A9 F9_key F9_values F9_resource F9_bundle) W9.ew (wd hw 42 rfl) (wd hw 39 rfl) (by simp) (by decide) (by decide)) d_code_120 rfl (wd hw 40 rfl) (wd hw 41 rfl) (wd hw 42 rfl) (by decide) pd_5 rfl rfl (rest := [(.ref a9)]) rfl (Nat.le_of_eq rfl) (cells' := 21) (slots' := 40) rfl rfl (by decide) (by decide) ?_
                  rintro T10 h10 W10 z10 ⟨K10, ar, M10⟩
                  have Y10 : Ext h8 h10 := ext_keep E9 K10 (all1 (Nat.le_of_eq g9.symm))
                  have Nvk := Nvk.ext Y10
                  have Nv1 := Nv1.ext Y10
                  have Nv2 := Nv2.ext Y10
                  refine Go.astore W10.cx d_code_123 (L' := #[.val (.int i0), .val (.int i1), .val (.int i2), .val (.int i3), .val (.int b4), .val (.int b5), .val (.int b6), .val (.int b7), .val (.int b8), .val vk, .val v1, .val v2, .val (.ref a9), .unset, .unset, .unset, .unset]) rfl rfl ?_
                  refine Go.iload W10.cx d_code_125 (v := b8) rfl ?_
                  refine Go.ifeq W10.cx d_code_127 (by decide) (q := 140) rfl (fun tw => ?_) (fun tw => ?_)
                  · refine Go.aload W10.cx d_code_140 (v := (.ref a9)) rfl rfl ?_
                    refine Go.astore W10.cx d_code_142 (L' := #[.val (.int i0), .val (.int i1), .val (.int i2), .val (.int i3), .val (.int b4), .val (.int b5), .val (.int b6), .val (.int b7), .val (.int b8), .val vk, .val v1, .val v2, .val (.ref a9), .val (.ref a9), .unset, .unset, .unset]) rfl rfl ?_
                    refine Go.iload W10.cx d_code_144 (v := b8) rfl ?_
                    refine Go.ifeq W10.cx d_code_146 (by decide) (q := 154) rfl (fun _ => ?_) (fun hh => (by first | exact absurd tw hh | exact absurd hh tw))
                    refine Go.aconst_null W10.cx d_code_154 ?_
                    refine Go.astore W10.cx d_code_155 (L' := #[.val (.int i0), .val (.int i1), .val (.int i2), .val (.int i3), .val (.int b4), .val (.int b5), .val (.int b6), .val (.int b7), .val (.int b8), .val vk, .val v1, .val v2, .val (.ref a9), .val (.ref a9), .val .null, .unset, .unset]) rfl rfl ?_
                    refine Go.aload W10.cx d_code_157 (v := (.ref a9)) rfl rfl ?_
                    refine Go.aload W10.cx d_code_159 (v := v2) rfl Nv2.is ?_
                    refine Go.invv1 W10 (Ctr.call (wt := 0) (c_with l Z a0 hw hE W10.old Nvk.or Nv2.or hB4 M10) W10.ew (wd hw 73 rfl) (wd hw 39 rfl) (by simp) (by decide) (by decide)) d_code_161 (wd hw 69 rfl) (wd hw 70 rfl) (wd hw 72 rfl) (wd hw 71 rfl) (by decide) M10.1 pd_6 rfl rfl (rest := []) rfl (Nat.le_of_eq rfl) (cells' := 22) (slots' := 44) rfl rfl (by decide) (by decide) ?_
                    rintro T11 h11 _ W11 z11 ⟨n11, rfl, E11, M11⟩
                    have Nvk := Nvk.ext E11
                    have Nv1 := Nv1.ext E11
                    have Nv2 := Nv2.ext E11
                    have BM := M10.ext E11
                    have MM := M10.ext E11
                    have nM := M11
                    refine Go.astore W11.cx d_code_164 (L' := #[.val (.int i0), .val (.int i1), .val (.int i2), .val (.int i3), .val (.int b4), .val (.int b5), .val (.int b6), .val (.int b7), .val (.int b8), .val vk, .val v1, .val v2, .val (.ref a9), .val (.ref a9), .val .null, .val (.ref n11), .unset]) rfl rfl ?_
                    refine Go.iconst W11.cx d_code_166 (z := (1 : Int32)) rfl ?_
                    refine Go.istore W11.cx d_code_167 (L' := #[.val (.int i0), .val (.int i1), .val (.int i2), .val (.int i3), .val (.int b4), .val (.int b5), .val (.int b6), .val (.int b7), .val (.int b8), .val vk, .val v1, .val v2, .val (.ref a9), .val (.ref a9), .val .null, .val (.ref n11), .val (.int (1 : Int32))]) rfl ?_
                    refine Go.iload W11.cx d_code_169 (v := (1 : Int32)) rfl ?_
                    refine Go.ifeq W11.cx d_code_171 (by decide) (q := 191) rfl (fun hh => (by first | exact absurd (by decide : ¬ (1 : Int32) = 0) hh | exact absurd hh (by decide : ¬ (1 : Int32) = 0))) (fun _ => ?_)
                    refine Go.aload W11.cx d_code_174 (v := (.ref n11)) rfl rfl ?_
                    refine Go.invv1 W11 (Ctr.call (wt := 0) (c_gb l Z a0 hw hE W11.old nM Nv2.or) W11.ew (wd hw 79 rfl) (wd hw 39 rfl) (by simp) (by decide) (by decide)) d_code_176 (wd hw 75 rfl) (wd hw 76 rfl) (wd hw 78 rfl) (wd hw 77 rfl) (by decide) nM.1 pd_7 rfl rfl (rest := []) rfl (Nat.le_of_eq rfl) (cells' := 22) (slots' := 44) rfl rfl (by decide) (by decide) ?_
                    rintro T12 h12 _ W12 z12 ⟨rfl, e12⟩
                    subst e12
                    refine Go.aload W12.cx d_code_179 (v := v2) rfl Nv2.is ?_
                    refine Go.invs1 W12 (c_same l Z a0 hw hE W12.old hG Nv2 (by decide) (by decide)) d_code_181 (wd hw 80 rfl) (wd hw 81 rfl) (wd hw 2 rfl) (wd hw 82 rfl) (by decide) pd_8 rfl rfl (rest := []) rfl (Nat.le_of_eq rfl) (cells' := 22) (slots' := 44) rfl rfl (by decide) (by decide) ?_
                    rintro T13 h13 _ W13 z13 ⟨rfl, e13⟩
                    subst e13
                    refine Go.ifeq W13.cx d_code_184 (by decide) (q := 191) rfl (fun hh => (by first | exact absurd (by decide : ¬ (1 : Int32) = 0) hh | exact absurd hh (by decide : ¬ (1 : Int32) = 0))) (fun _ => ?_)
                    refine Go.iconst W13.cx d_code_187 (z := (1 : Int32)) rfl ?_
                    refine Go.goto W13.cx d_code_188 (by decide) (q := 192) rfl ?_
                    refine Go.istore W13.cx d_code_192 (L' := #[.val (.int i0), .val (.int i1), .val (.int i2), .val (.int i3), .val (.int b4), .val (.int b5), .val (.int b6), .val (.int b7), .val (.int b8), .val vk, .val v1, .val v2, .val (.ref a9), .val (.ref a9), .val .null, .val (.ref n11), .val (.int (1 : Int32))]) rfl ?_
                    refine Go.iload W13.cx d_code_194 (v := (1 : Int32)) rfl ?_
                    refine Go.ifeq W13.cx d_code_196 (by decide) (q := 216) rfl (fun hh => (by first | exact absurd (by decide : ¬ (1 : Int32) = 0) hh | exact absurd hh (by decide : ¬ (1 : Int32) = 0))) (fun _ => ?_)
                    refine Go.aload W13.cx d_code_199 (v := (.ref n11)) rfl rfl ?_
                    refine Go.invv1 W13 (Ctr.call (wt := 0) (c_gk l Z a0 hw hE W13.old nM Nvk.or) W13.ew (wd hw 92 rfl) (wd hw 39 rfl) (by simp) (by decide) (by decide)) d_code_201 (wd hw 88 rfl) (wd hw 89 rfl) (wd hw 91 rfl) (wd hw 90 rfl) (by decide) nM.1 pd_7 rfl rfl (rest := []) rfl (Nat.le_of_eq rfl) (cells' := 22) (slots' := 44) rfl rfl (by decide) (by decide) ?_
                    rintro T14 h14 _ W14 z14 ⟨rfl, e14⟩
                    subst e14
                    refine Go.aload W14.cx d_code_204 (v := vk) rfl Nvk.is ?_
                    refine Go.invs1 W14 (c_same l Z a0 hw hE W14.old hG Nvk (by decide) (by decide)) d_code_206 (wd hw 80 rfl) (wd hw 81 rfl) (wd hw 2 rfl) (wd hw 82 rfl) (by decide) pd_8 rfl rfl (rest := []) rfl (Nat.le_of_eq rfl) (cells' := 22) (slots' := 44) rfl rfl (by decide) (by decide) ?_
                    rintro T15 h15 _ W15 z15 ⟨rfl, e15⟩
                    subst e15
                    refine Go.ifeq W15.cx d_code_209 (by decide) (q := 216) rfl (fun hh => (by first | exact absurd (by decide : ¬ (1 : Int32) = 0) hh | exact absurd hh (by decide : ¬ (1 : Int32) = 0))) (fun _ => ?_)
                    refine Go.iconst W15.cx d_code_212 (z := (1 : Int32)) rfl ?_
                    refine Go.goto W15.cx d_code_213 (by decide) (q := 217) rfl ?_
                    refine Go.istore W15.cx d_code_217 (L' := #[.val (.int i0), .val (.int i1), .val (.int i2), .val (.int i3), .val (.int b4), .val (.int b5), .val (.int b6), .val (.int b7), .val (.int b8), .val vk, .val v1, .val v2, .val (.ref a9), .val (.ref a9), .val .null, .val (.ref n11), .val (.int (1 : Int32))]) rfl ?_
                    refine Go.iload W15.cx d_code_219 (v := (1 : Int32)) rfl ?_
                    refine Go.ifeq W15.cx d_code_221 (by decide) (q := 238) rfl (fun hh => (by first | exact absurd (by decide : ¬ (1 : Int32) = 0) hh | exact absurd hh (by decide : ¬ (1 : Int32) = 0))) (fun _ => ?_)
                    refine Go.aload W15.cx d_code_224 (v := (.ref n11)) rfl rfl ?_
                    refine Go.invv1 W15 (Ctr.call (wt := 0) (c_gr l Z a0 hw hE W15.old nM hB4) W15.ew (wd hw 97 rfl) (wd hw 39 rfl) (by simp) (by decide) (by decide)) d_code_226 (wd hw 93 rfl) (wd hw 94 rfl) (wd hw 96 rfl) (wd hw 95 rfl) (by decide) nM.1 pd_9 rfl rfl (rest := []) rfl (Nat.le_of_eq rfl) (cells' := 22) (slots' := 44) rfl rfl (by decide) (by decide) ?_
                    rintro T16 h16 _ W16 z16 ⟨rfl, e16⟩
                    subst e16
                    refine Go.iload W16.cx d_code_229 (v := b4) rfl ?_
                    refine Go.icne W16.cx d_code_231 (by decide) (q := 238) rfl (fun hh => (by first | exact absurd (rfl : b4 = b4) hh | exact absurd hh (rfl : b4 = b4))) (fun _ => ?_)
                    refine Go.iconst W16.cx d_code_234 (z := (1 : Int32)) rfl ?_
                    refine Go.goto W16.cx d_code_235 (by decide) (q := 239) rfl ?_
                    refine Go.istore W16.cx d_code_239 (L' := #[.val (.int i0), .val (.int i1), .val (.int i2), .val (.int i3), .val (.int b4), .val (.int b5), .val (.int b6), .val (.int b7), .val (.int b8), .val vk, .val v1, .val v2, .val (.ref a9), .val (.ref a9), .val .null, .val (.ref n11), .val (.int (1 : Int32))]) rfl ?_
                    refine Go.iload W16.cx d_code_241 (v := (1 : Int32)) rfl ?_
                    refine Go.ifeq W16.cx d_code_243 (by decide) (q := 259) rfl (fun hh => (by first | exact absurd (by decide : ¬ (1 : Int32) = 0) hh | exact absurd hh (by decide : ¬ (1 : Int32) = 0))) (fun _ => ?_)
                    refine Go.aload W16.cx d_code_246 (v := (.ref n11)) rfl rfl ?_
                    refine Go.invv1 W16 (Ctr.call (wt := 0) (c_gv l Z a0 hw hE W16.old nM) W16.ew (wd hw 102 rfl) (wd hw 39 rfl) (by simp) (by decide) (by decide)) d_code_248 (wd hw 98 rfl) (wd hw 99 rfl) (wd hw 101 rfl) (wd hw 100 rfl) (by decide) nM.1 pd_10 rfl rfl (rest := []) rfl (Nat.le_of_eq rfl) (cells' := 23) (slots' := 44) rfl rfl (by decide) (by decide) ?_
                    rintro T17 h17 _ W17 z17 ⟨bb, rfl, E17, O17⟩
                    have Nvk := Nvk.ext E17
                    have Nv1 := Nv1.ext E17
                    have Nv2 := Nv2.ext E17
                    have BM := BM.ext E17
                    have MM := MM.ext E17
                    refine Go.alen0 W17 d_code_251 O17 ?_
                    refine Go.ifne W17.cx d_code_252 (by decide) (q := 259) rfl (fun hh => (by first | exact absurd (rfl : (0 : Int32) = 0) hh | exact absurd hh (rfl : (0 : Int32) = 0))) (fun _ => ?_)
                    refine Go.iconst W17.cx d_code_255 (z := (1 : Int32)) rfl ?_
                    refine Go.goto W17.cx d_code_256 (by decide) (q := 260) rfl ?_
                    refine Go.istore W17.cx d_code_260 (L' := #[.val (.int i0), .val (.int i1), .val (.int i2), .val (.int i3), .val (.int b4), .val (.int b5), .val (.int b6), .val (.int b7), .val (.int b8), .val vk, .val v1, .val v2, .val (.ref a9), .val (.ref a9), .val .null, .val (.ref n11), .val (.int (1 : Int32))]) rfl ?_
                    refine Go.iload W17.cx d_code_262 (v := (1 : Int32)) rfl ?_
                    refine Go.ifeq W17.cx d_code_264 (by decide) (q := 284) rfl (fun hh => (by first | exact absurd (by decide : ¬ (1 : Int32) = 0) hh | exact absurd hh (by decide : ¬ (1 : Int32) = 0))) (fun _ => ?_)
                    refine Go.aload W17.cx d_code_267 (v := (.ref a9)) rfl rfl ?_
                    refine Go.invv1 W17 (Ctr.call (wt := 0) (c_gb l Z a0 hw hE W17.old BM (Or.inl rfl)) W17.ew (wd hw 79 rfl) (wd hw 39 rfl) (by simp) (by decide) (by decide)) d_code_269 (wd hw 75 rfl) (wd hw 76 rfl) (wd hw 78 rfl) (wd hw 77 rfl) (by decide) BM.1 pd_7 rfl rfl (rest := []) rfl (Nat.le_of_eq rfl) (cells' := 23) (slots' := 44) rfl rfl (by decide) (by decide) ?_
                    rintro T18 h18 _ W18 z18 ⟨rfl, e18⟩
                    subst e18
                    refine Go.aload W18.cx d_code_272 (v := .null) rfl rfl ?_
                    refine Go.invs1 W18 (c_same l Z a0 hw hE W18.old hG (Or.inl rfl) (by decide) (by decide)) d_code_274 (wd hw 80 rfl) (wd hw 81 rfl) (wd hw 2 rfl) (wd hw 82 rfl) (by decide) pd_8 rfl rfl (rest := []) rfl (Nat.le_of_eq rfl) (cells' := 23) (slots' := 44) rfl rfl (by decide) (by decide) ?_
                    rintro T19 h19 _ W19 z19 ⟨rfl, e19⟩
                    subst e19
                    refine Go.ifeq W19.cx d_code_277 (by decide) (q := 284) rfl (fun hh => (by first | exact absurd (by decide : ¬ (1 : Int32) = 0) hh | exact absurd hh (by decide : ¬ (1 : Int32) = 0))) (fun _ => ?_)
                    refine Go.iconst W19.cx d_code_280 (z := (1 : Int32)) rfl ?_
                    refine Go.goto W19.cx d_code_281 (by decide) (q := 285) rfl ?_
                    refine Go.istore W19.cx d_code_285 (L' := #[.val (.int i0), .val (.int i1), .val (.int i2), .val (.int i3), .val (.int b4), .val (.int b5), .val (.int b6), .val (.int b7), .val (.int b8), .val vk, .val v1, .val v2, .val (.ref a9), .val (.ref a9), .val .null, .val (.ref n11), .val (.int (1 : Int32))]) rfl ?_
                    refine Go.iload W19.cx d_code_287 (v := (1 : Int32)) rfl ?_
                    refine Go.ifeq W19.cx d_code_289 (by decide) (q := 304) rfl (fun hh => (by first | exact absurd (by decide : ¬ (1 : Int32) = 0) hh | exact absurd hh (by decide : ¬ (1 : Int32) = 0))) (fun _ => ?_)
                    refine Go.aload W19.cx d_code_292 (v := (.ref a9)) rfl rfl ?_
                    refine Go.invv1 W19 (Ctr.call (wt := 0) (c_gb l Z a0 hw hE W19.old MM (Or.inl rfl)) W19.ew (wd hw 79 rfl) (wd hw 39 rfl) (by simp) (by decide) (by decide)) d_code_294 (wd hw 75 rfl) (wd hw 76 rfl) (wd hw 78 rfl) (wd hw 77 rfl) (by decide) MM.1 pd_7 rfl rfl (rest := []) rfl (Nat.le_of_eq rfl) (cells' := 23) (slots' := 44) rfl rfl (by decide) (by decide) ?_
                    rintro T20 h20 _ W20 z20 ⟨rfl, e20⟩
                    subst e20
                    refine Go.ifnonnull_n W20.cx d_code_297 ?_
                    refine Go.iconst W20.cx d_code_300 (z := (1 : Int32)) rfl ?_
                    refine Go.goto W20.cx d_code_301 (by decide) (q := 305) rfl ?_
                    refine Go.istore W20.cx d_code_305 (L' := #[.val (.int i0), .val (.int i1), .val (.int i2), .val (.int i3), .val (.int b4), .val (.int b5), .val (.int b6), .val (.int b7), .val (.int b8), .val vk, .val v1, .val v2, .val (.ref a9), .val (.ref a9), .val .null, .val (.ref n11), .val (.int (1 : Int32))]) rfl ?_
                    refine Go.iload W20.cx d_code_307 (v := (1 : Int32)) rfl ?_
                    exact Go.iret W20 d_code_309 (by simp) rfl (by decide) (by decide) ⟨_, rfl, rfl⟩
                  · refine Go.aload W10.cx d_code_130 (v := (.ref a9)) rfl rfl ?_
                    refine Go.aload W10.cx d_code_132 (v := v1) rfl Nv1.is ?_
                    refine Go.invv1 W10 (Ctr.call (wt := 0) (c_with l Z a0 hw hE W10.old Nvk.or Nv1.or hB4 M10) W10.ew (wd hw 73 rfl) (wd hw 39 rfl) (by simp) (by decide) (by decide)) d_code_134 (wd hw 69 rfl) (wd hw 70 rfl) (wd hw 72 rfl) (wd hw 71 rfl) (by decide) M10.1 pd_6 rfl rfl (rest := []) rfl (Nat.le_of_eq rfl) (cells' := 22) (slots' := 44) rfl rfl (by decide) (by decide) ?_
                    rintro T21 h21 _ W21 z21 ⟨n21, rfl, E21, M21⟩
                    have Nvk := Nvk.ext E21
                    have Nv1 := Nv1.ext E21
                    have Nv2 := Nv2.ext E21
                    have MB := M10.ext E21
                    refine Go.goto W21.cx d_code_137 (by decide) (q := 142) rfl ?_
                    refine Go.astore W21.cx d_code_142 (L' := #[.val (.int i0), .val (.int i1), .val (.int i2), .val (.int i3), .val (.int b4), .val (.int b5), .val (.int b6), .val (.int b7), .val (.int b8), .val vk, .val v1, .val v2, .val (.ref a9), .val (.ref n21), .unset, .unset, .unset]) rfl rfl ?_
                    refine Go.iload W21.cx d_code_144 (v := b8) rfl ?_
                    refine Go.ifeq W21.cx d_code_146 (by decide) (q := 154) rfl (fun hh => (by first | exact absurd tw hh | exact absurd hh tw)) (fun _ => ?_)
                    refine Go.aload W21.cx d_code_149 (v := v1) rfl Nv1.is ?_
                    refine Go.goto W21.cx d_code_151 (by decide) (q := 155) rfl ?_
                    refine Go.astore W21.cx d_code_155 (L' := #[.val (.int i0), .val (.int i1), .val (.int i2), .val (.int i3), .val (.int b4), .val (.int b5), .val (.int b6), .val (.int b7), .val (.int b8), .val vk, .val v1, .val v2, .val (.ref a9), .val (.ref n21), .val v1, .unset, .unset]) Nv1.is (by rcases Nv1.or with rfl | ⟨_, rfl⟩ <;> rfl) ?_
                    refine Go.aload W21.cx d_code_157 (v := (.ref n21)) rfl rfl ?_
                    refine Go.aload W21.cx d_code_159 (v := v2) rfl Nv2.is ?_
                    refine Go.invv1 W21 (Ctr.call (wt := 0) (c_with l Z a0 hw hE W21.old Nvk.or Nv2.or hB4 M21) W21.ew (wd hw 73 rfl) (wd hw 39 rfl) (by simp) (by decide) (by decide)) d_code_161 (wd hw 69 rfl) (wd hw 70 rfl) (wd hw 72 rfl) (wd hw 71 rfl) (by decide) M21.1 pd_6 rfl rfl (rest := []) rfl (Nat.le_of_eq rfl) (cells' := 23) (slots' := 48) rfl rfl (by decide) (by decide) ?_
                    rintro T22 h22 _ W22 z22 ⟨n22, rfl, E22, M22⟩
                    have Nvk := Nvk.ext E22
                    have Nv1 := Nv1.ext E22
                    have Nv2 := Nv2.ext E22
                    have BM := M21.ext E22
                    have MM := MB.ext E22
                    have nM := M22
                    refine Go.astore W22.cx d_code_164 (L' := #[.val (.int i0), .val (.int i1), .val (.int i2), .val (.int i3), .val (.int b4), .val (.int b5), .val (.int b6), .val (.int b7), .val (.int b8), .val vk, .val v1, .val v2, .val (.ref a9), .val (.ref n21), .val v1, .val (.ref n22), .unset]) rfl rfl ?_
                    refine Go.iconst W22.cx d_code_166 (z := (1 : Int32)) rfl ?_
                    refine Go.istore W22.cx d_code_167 (L' := #[.val (.int i0), .val (.int i1), .val (.int i2), .val (.int i3), .val (.int b4), .val (.int b5), .val (.int b6), .val (.int b7), .val (.int b8), .val vk, .val v1, .val v2, .val (.ref a9), .val (.ref n21), .val v1, .val (.ref n22), .val (.int (1 : Int32))]) rfl ?_
                    refine Go.iload W22.cx d_code_169 (v := (1 : Int32)) rfl ?_
                    refine Go.ifeq W22.cx d_code_171 (by decide) (q := 191) rfl (fun hh => (by first | exact absurd (by decide : ¬ (1 : Int32) = 0) hh | exact absurd hh (by decide : ¬ (1 : Int32) = 0))) (fun _ => ?_)
                    refine Go.aload W22.cx d_code_174 (v := (.ref n22)) rfl rfl ?_
                    refine Go.invv1 W22 (Ctr.call (wt := 0) (c_gb l Z a0 hw hE W22.old nM Nv2.or) W22.ew (wd hw 79 rfl) (wd hw 39 rfl) (by simp) (by decide) (by decide)) d_code_176 (wd hw 75 rfl) (wd hw 76 rfl) (wd hw 78 rfl) (wd hw 77 rfl) (by decide) nM.1 pd_7 rfl rfl (rest := []) rfl (Nat.le_of_eq rfl) (cells' := 23) (slots' := 48) rfl rfl (by decide) (by decide) ?_
                    rintro T23 h23 _ W23 z23 ⟨rfl, e23⟩
                    subst e23
                    refine Go.aload W23.cx d_code_179 (v := v2) rfl Nv2.is ?_
                    refine Go.invs1 W23 (c_same l Z a0 hw hE W23.old hG Nv2 (by decide) (by decide)) d_code_181 (wd hw 80 rfl) (wd hw 81 rfl) (wd hw 2 rfl) (wd hw 82 rfl) (by decide) pd_8 rfl rfl (rest := []) rfl (Nat.le_of_eq rfl) (cells' := 23) (slots' := 48) rfl rfl (by decide) (by decide) ?_
                    rintro T24 h24 _ W24 z24 ⟨rfl, e24⟩
                    subst e24
                    refine Go.ifeq W24.cx d_code_184 (by decide) (q := 191) rfl (fun hh => (by first | exact absurd (by decide : ¬ (1 : Int32) = 0) hh | exact absurd hh (by decide : ¬ (1 : Int32) = 0))) (fun _ => ?_)
                    refine Go.iconst W24.cx d_code_187 (z := (1 : Int32)) rfl ?_
                    refine Go.goto W24.cx d_code_188 (by decide) (q := 192) rfl ?_
                    refine Go.istore W24.cx d_code_192 (L' := #[.val (.int i0), .val (.int i1), .val (.int i2), .val (.int i3), .val (.int b4), .val (.int b5), .val (.int b6), .val (.int b7), .val (.int b8), .val vk, .val v1, .val v2, .val (.ref a9), .val (.ref n21), .val v1, .val (.ref n22), .val (.int (1 : Int32))]) rfl ?_
                    refine Go.iload W24.cx d_code_194 (v := (1 : Int32)) rfl ?_
                    refine Go.ifeq W24.cx d_code_196 (by decide) (q := 216) rfl (fun hh => (by first | exact absurd (by decide : ¬ (1 : Int32) = 0) hh | exact absurd hh (by decide : ¬ (1 : Int32) = 0))) (fun _ => ?_)
                    refine Go.aload W24.cx d_code_199 (v := (.ref n22)) rfl rfl ?_
                    refine Go.invv1 W24 (Ctr.call (wt := 0) (c_gk l Z a0 hw hE W24.old nM Nvk.or) W24.ew (wd hw 92 rfl) (wd hw 39 rfl) (by simp) (by decide) (by decide)) d_code_201 (wd hw 88 rfl) (wd hw 89 rfl) (wd hw 91 rfl) (wd hw 90 rfl) (by decide) nM.1 pd_7 rfl rfl (rest := []) rfl (Nat.le_of_eq rfl) (cells' := 23) (slots' := 48) rfl rfl (by decide) (by decide) ?_
                    rintro T25 h25 _ W25 z25 ⟨rfl, e25⟩
                    subst e25
                    refine Go.aload W25.cx d_code_204 (v := vk) rfl Nvk.is ?_
                    refine Go.invs1 W25 (c_same l Z a0 hw hE W25.old hG Nvk (by decide) (by decide)) d_code_206 (wd hw 80 rfl) (wd hw 81 rfl) (wd hw 2 rfl) (wd hw 82 rfl) (by decide) pd_8 rfl rfl (rest := []) rfl (Nat.le_of_eq rfl) (cells' := 23) (slots' := 48) rfl rfl (by decide) (by decide) ?_
                    rintro T26 h26 _ W26 z26 ⟨rfl, e26⟩
                    subst e26
                    refine Go.ifeq W26.cx d_code_209 (by decide) (q := 216) rfl (fun hh => (by first | exact absurd (by decide : ¬ (1 : Int32) = 0) hh | exact absurd hh (by decide : ¬ (1 : Int32) = 0))) (fun _ => ?_)
                    refine Go.iconst W26.cx d_code_212 (z := (1 : Int32)) rfl ?_
                    refine Go.goto W26.cx d_code_213 (by decide) (q := 217) rfl ?_
                    refine Go.istore W26.cx d_code_217 (L' := #[.val (.int i0), .val (.int i1), .val (.int i2), .val (.int i3), .val (.int b4), .val (.int b5), .val (.int b6), .val (.int b7), .val (.int b8), .val vk, .val v1, .val v2, .val (.ref a9), .val (.ref n21), .val v1, .val (.ref n22), .val (.int (1 : Int32))]) rfl ?_
                    refine Go.iload W26.cx d_code_219 (v := (1 : Int32)) rfl ?_
                    refine Go.ifeq W26.cx d_code_221 (by decide) (q := 238) rfl (fun hh => (by first | exact absurd (by decide : ¬ (1 : Int32) = 0) hh | exact absurd hh (by decide : ¬ (1 : Int32) = 0))) (fun _ => ?_)
                    refine Go.aload W26.cx d_code_224 (v := (.ref n22)) rfl rfl ?_
                    refine Go.invv1 W26 (Ctr.call (wt := 0) (c_gr l Z a0 hw hE W26.old nM hB4) W26.ew (wd hw 97 rfl) (wd hw 39 rfl) (by simp) (by decide) (by decide)) d_code_226 (wd hw 93 rfl) (wd hw 94 rfl) (wd hw 96 rfl) (wd hw 95 rfl) (by decide) nM.1 pd_9 rfl rfl (rest := []) rfl (Nat.le_of_eq rfl) (cells' := 23) (slots' := 48) rfl rfl (by decide) (by decide) ?_
                    rintro T27 h27 _ W27 z27 ⟨rfl, e27⟩
                    subst e27
                    refine Go.iload W27.cx d_code_229 (v := b4) rfl ?_
                    refine Go.icne W27.cx d_code_231 (by decide) (q := 238) rfl (fun hh => (by first | exact absurd (rfl : b4 = b4) hh | exact absurd hh (rfl : b4 = b4))) (fun _ => ?_)
                    refine Go.iconst W27.cx d_code_234 (z := (1 : Int32)) rfl ?_
                    refine Go.goto W27.cx d_code_235 (by decide) (q := 239) rfl ?_
                    refine Go.istore W27.cx d_code_239 (L' := #[.val (.int i0), .val (.int i1), .val (.int i2), .val (.int i3), .val (.int b4), .val (.int b5), .val (.int b6), .val (.int b7), .val (.int b8), .val vk, .val v1, .val v2, .val (.ref a9), .val (.ref n21), .val v1, .val (.ref n22), .val (.int (1 : Int32))]) rfl ?_
                    refine Go.iload W27.cx d_code_241 (v := (1 : Int32)) rfl ?_
                    refine Go.ifeq W27.cx d_code_243 (by decide) (q := 259) rfl (fun hh => (by first | exact absurd (by decide : ¬ (1 : Int32) = 0) hh | exact absurd hh (by decide : ¬ (1 : Int32) = 0))) (fun _ => ?_)
                    refine Go.aload W27.cx d_code_246 (v := (.ref n22)) rfl rfl ?_
                    refine Go.invv1 W27 (Ctr.call (wt := 0) (c_gv l Z a0 hw hE W27.old nM) W27.ew (wd hw 102 rfl) (wd hw 39 rfl) (by simp) (by decide) (by decide)) d_code_248 (wd hw 98 rfl) (wd hw 99 rfl) (wd hw 101 rfl) (wd hw 100 rfl) (by decide) nM.1 pd_10 rfl rfl (rest := []) rfl (Nat.le_of_eq rfl) (cells' := 24) (slots' := 48) rfl rfl (by decide) (by decide) ?_
                    rintro T28 h28 _ W28 z28 ⟨bb, rfl, E28, O28⟩
                    have Nvk := Nvk.ext E28
                    have Nv1 := Nv1.ext E28
                    have Nv2 := Nv2.ext E28
                    have BM := BM.ext E28
                    have MM := MM.ext E28
                    refine Go.alen0 W28 d_code_251 O28 ?_
                    refine Go.ifne W28.cx d_code_252 (by decide) (q := 259) rfl (fun hh => (by first | exact absurd (rfl : (0 : Int32) = 0) hh | exact absurd hh (rfl : (0 : Int32) = 0))) (fun _ => ?_)
                    refine Go.iconst W28.cx d_code_255 (z := (1 : Int32)) rfl ?_
                    refine Go.goto W28.cx d_code_256 (by decide) (q := 260) rfl ?_
                    refine Go.istore W28.cx d_code_260 (L' := #[.val (.int i0), .val (.int i1), .val (.int i2), .val (.int i3), .val (.int b4), .val (.int b5), .val (.int b6), .val (.int b7), .val (.int b8), .val vk, .val v1, .val v2, .val (.ref a9), .val (.ref n21), .val v1, .val (.ref n22), .val (.int (1 : Int32))]) rfl ?_
                    refine Go.iload W28.cx d_code_262 (v := (1 : Int32)) rfl ?_
                    refine Go.ifeq W28.cx d_code_264 (by decide) (q := 284) rfl (fun hh => (by first | exact absurd (by decide : ¬ (1 : Int32) = 0) hh | exact absurd hh (by decide : ¬ (1 : Int32) = 0))) (fun _ => ?_)
                    refine Go.aload W28.cx d_code_267 (v := (.ref n21)) rfl rfl ?_
                    refine Go.invv1 W28 (Ctr.call (wt := 0) (c_gb l Z a0 hw hE W28.old BM Nv1.or) W28.ew (wd hw 79 rfl) (wd hw 39 rfl) (by simp) (by decide) (by decide)) d_code_269 (wd hw 75 rfl) (wd hw 76 rfl) (wd hw 78 rfl) (wd hw 77 rfl) (by decide) BM.1 pd_7 rfl rfl (rest := []) rfl (Nat.le_of_eq rfl) (cells' := 24) (slots' := 48) rfl rfl (by decide) (by decide) ?_
                    rintro T29 h29 _ W29 z29 ⟨rfl, e29⟩
                    subst e29
                    refine Go.aload W29.cx d_code_272 (v := v1) rfl Nv1.is ?_
                    refine Go.invs1 W29 (c_same l Z a0 hw hE W29.old hG Nv1 (by decide) (by decide)) d_code_274 (wd hw 80 rfl) (wd hw 81 rfl) (wd hw 2 rfl) (wd hw 82 rfl) (by decide) pd_8 rfl rfl (rest := []) rfl (Nat.le_of_eq rfl) (cells' := 24) (slots' := 48) rfl rfl (by decide) (by decide) ?_
                    rintro T30 h30 _ W30 z30 ⟨rfl, e30⟩
                    subst e30
                    refine Go.ifeq W30.cx d_code_277 (by decide) (q := 284) rfl (fun hh => (by first | exact absurd (by decide : ¬ (1 : Int32) = 0) hh | exact absurd hh (by decide : ¬ (1 : Int32) = 0))) (fun _ => ?_)
                    refine Go.iconst W30.cx d_code_280 (z := (1 : Int32)) rfl ?_
                    refine Go.goto W30.cx d_code_281 (by decide) (q := 285) rfl ?_
                    refine Go.istore W30.cx d_code_285 (L' := #[.val (.int i0), .val (.int i1), .val (.int i2), .val (.int i3), .val (.int b4), .val (.int b5), .val (.int b6), .val (.int b7), .val (.int b8), .val vk, .val v1, .val v2, .val (.ref a9), .val (.ref n21), .val v1, .val (.ref n22), .val (.int (1 : Int32))]) rfl ?_
                    refine Go.iload W30.cx d_code_287 (v := (1 : Int32)) rfl ?_
                    refine Go.ifeq W30.cx d_code_289 (by decide) (q := 304) rfl (fun hh => (by first | exact absurd (by decide : ¬ (1 : Int32) = 0) hh | exact absurd hh (by decide : ¬ (1 : Int32) = 0))) (fun _ => ?_)
                    refine Go.aload W30.cx d_code_292 (v := (.ref a9)) rfl rfl ?_
                    refine Go.invv1 W30 (Ctr.call (wt := 0) (c_gb l Z a0 hw hE W30.old MM (Or.inl rfl)) W30.ew (wd hw 79 rfl) (wd hw 39 rfl) (by simp) (by decide) (by decide)) d_code_294 (wd hw 75 rfl) (wd hw 76 rfl) (wd hw 78 rfl) (wd hw 77 rfl) (by decide) MM.1 pd_7 rfl rfl (rest := []) rfl (Nat.le_of_eq rfl) (cells' := 24) (slots' := 48) rfl rfl (by decide) (by decide) ?_
                    rintro T31 h31 _ W31 z31 ⟨rfl, e31⟩
                    subst e31
                    refine Go.ifnonnull_n W31.cx d_code_297 ?_
                    refine Go.iconst W31.cx d_code_300 (z := (1 : Int32)) rfl ?_
                    refine Go.goto W31.cx d_code_301 (by decide) (q := 305) rfl ?_
                    refine Go.istore W31.cx d_code_305 (L' := #[.val (.int i0), .val (.int i1), .val (.int i2), .val (.int i3), .val (.int b4), .val (.int b5), .val (.int b6), .val (.int b7), .val (.int b8), .val vk, .val v1, .val v2, .val (.ref a9), .val (.ref n21), .val v1, .val (.ref n22), .val (.int (1 : Int32))]) rfl ?_
                    refine Go.iload W31.cx d_code_307 (v := (1 : Int32)) rfl ?_
                    exact Go.iret W31 d_code_309 (by simp) rfl (by decide) (by decide) ⟨_, rfl, rfl⟩
                refine Go.ifeq W7.cx d_code_99 (by decide) (q := 106) rfl (fun qq => ?_) (fun qq => ?_)
                · refine Go.iload_n W7.cx d_code_106 (v := i2) rfl ?_
                  refine Go.invs1 W7 (Ctr.call (wt := 0) (c_str l Z a0 hw hE W7.old hG i2) W7.ew (wd hw 3 rfl) (wd hw 2 rfl) (by simp) (by decide) (by decide)) d_code_107 (wd hw 0 rfl) (wd hw 1 rfl) (wd hw 2 rfl) (wd hw 3 rfl) (by decide) pd_11 rfl rfl (rest := []) rfl (Nat.le_of_eq rfl) (cells' := 18) (slots' := 36) rfl rfl (by decide) (by decide) ?_
                  rintro T32 h32 _ W32 z32 ⟨r32, rfl, E32, cs32, S32⟩
                  exact J8 _ _ _ W32 E32 (Or.inr ⟨_, rfl, _, S32⟩)
                · refine Go.aconst_null W7.cx d_code_102 ?_
                  refine Go.goto W7.cx d_code_103 (by decide) (q := 110) rfl ?_
                  exact J8 _ _ _ (W7.mono (by decide) (by decide)) (ext_refl _) (Or.inl rfl)
              refine Go.ifeq W6.cx d_code_84 (by decide) (q := 91) rfl (fun qq => ?_) (fun qq => ?_)
              · refine Go.iload_n W6.cx d_code_91 (v := i1) rfl ?_
                refine Go.invs1 W6 (Ctr.call (wt := 0) (c_str l Z a0 hw hE W6.old hG i1) W6.ew (wd hw 3 rfl) (wd hw 2 rfl) (by simp) (by decide) (by decide)) d_code_92 (wd hw 0 rfl) (wd hw 1 rfl) (wd hw 2 rfl) (wd hw 3 rfl) (by decide) pd_11 rfl rfl (rest := []) rfl (Nat.le_of_eq rfl) (cells' := 12) (slots' := 24) rfl rfl (by decide) (by decide) ?_
                rintro T33 h33 _ W33 z33 ⟨r33, rfl, E33, cs33, S33⟩
                exact J7 _ _ _ W33 E33 (Or.inr ⟨_, rfl, _, S33⟩)
              · refine Go.aconst_null W6.cx d_code_87 ?_
                refine Go.goto W6.cx d_code_88 (by decide) (q := 95) rfl ?_
                exact J7 _ _ _ (W6.mono (by decide) (by decide)) (ext_refl _) (Or.inl rfl)
            refine Go.ifeq W0.cx d_code_69 (by decide) (q := 76) rfl (fun qq => ?_) (fun qq => ?_)
            · refine Go.iload_n W0.cx d_code_76 (v := i0) rfl ?_
              refine Go.invs1 W0 (Ctr.call (wt := 0) (c_str l Z a0 hw hE W0.old hG i0) W0.ew (wd hw 3 rfl) (wd hw 2 rfl) (by simp) (by decide) (by decide)) d_code_77 (wd hw 0 rfl) (wd hw 1 rfl) (wd hw 2 rfl) (wd hw 3 rfl) (by decide) pd_11 rfl rfl (rest := []) rfl (Nat.le_of_eq rfl) (cells' := 6) (slots' := 12) rfl rfl (by decide) (by decide) ?_
              rintro T34 h34 _ W34 z34 ⟨r34, rfl, E34, cs34, S34⟩
              exact J6 _ _ _ W34 E34 (Or.inr ⟨_, rfl, _, S34⟩)
            · refine Go.aconst_null W0.cx d_code_72 ?_
              refine Go.goto W0.cx d_code_73 (by decide) (q := 80) rfl ?_
              exact J6 _ _ _ (W0.mono (by decide) (by decide)) (ext_refl _) (Or.inl rfl)
          refine Go.ifeq W0.cx d_code_57 (by decide) (q := 64) rfl (fun q4 => ?_) (fun q4 => ?_)
          · refine Go.iconst W0.cx d_code_64 (z := (0 : Int32)) rfl ?_
            rw [if_pos q4] at hb8; subst hb8; exact J5
          · refine Go.iconst W0.cx d_code_60 (z := (1 : Int32)) rfl ?_
            refine Go.goto W0.cx d_code_61 (by decide) (q := 65) rfl ?_
            rw [if_neg q4] at hb8; subst hb8; exact J5
        refine Go.ifeq W0.cx d_code_43 (by decide) (q := 50) rfl (fun q3 => ?_) (fun q3 => ?_)
        · refine Go.iconst W0.cx d_code_50 (z := (0 : Int32)) rfl ?_
          rw [if_pos q3] at hb7; subst hb7; exact J4
        · refine Go.iconst W0.cx d_code_46 (z := (1 : Int32)) rfl ?_
          refine Go.goto W0.cx d_code_47 (by decide) (q := 51) rfl ?_
          rw [if_neg q3] at hb7; subst hb7; exact J4
      refine Go.ifeq W0.cx d_code_29 (by decide) (q := 36) rfl (fun q2 => ?_) (fun q2 => ?_)
      · refine Go.iconst W0.cx d_code_36 (z := (0 : Int32)) rfl ?_
        rw [if_pos q2] at hb6; subst hb6; exact J3
      · refine Go.iconst W0.cx d_code_32 (z := (1 : Int32)) rfl ?_
        refine Go.goto W0.cx d_code_33 (by decide) (q := 37) rfl ?_
        rw [if_neg q2] at hb6; subst hb6; exact J3
    refine Go.ifeq W0.cx d_code_16 (by decide) (q := 23) rfl (fun q1 => ?_) (fun q1 => ?_)
    · refine Go.iconst W0.cx d_code_23 (z := (0 : Int32)) rfl ?_
      rw [if_pos q1] at hb5; subst hb5; exact J2
    · refine Go.iconst W0.cx d_code_19 (z := (1 : Int32)) rfl ?_
      refine Go.goto W0.cx d_code_20 (by decide) (q := 24) rfl ?_
      rw [if_neg q1] at hb5; subst hb5; exact J2
  refine Go.ifeq W0.cx d_code_3 (by decide) (q := 10) rfl (fun q0 => ?_) (fun q0 => ?_)
  · refine Go.iconst W0.cx d_code_10 (z := (0 : Int32)) rfl ?_
    rw [if_pos q0] at hb4; subst hb4; exact J1
  · refine Go.iconst W0.cx d_code_6 (z := (1 : Int32)) rfl ?_
    refine Go.goto W0.cx d_code_7 (by decide) (q := 11) rfl ?_
    rw [if_neg q0] at hb4; subst hb4; exact J1
set_option maxRecDepth 65536 in
set_option maxHeartbeats 40000000 in
theorem comes_1 {Post : Tables → Env → Array Value → State → Outcome → State → Prop} (hpost : ∀ tb e args s v u, (limb_1_1.after args s (.returned v) u = true ∧ limb_1_2.after args s (.returned v) u = true ∧ True) → ReturnedEndW s (.returned v) u (Jvm.fieldLocs frame_1_writes args s ++ Jvm.arrayLocs frame_1_arrays args s ++ Jvm.staticLocs frame_1_statics s) 40 1216 → Post tb e args s (.returned v) u) :
    ArmFor flags0 classFile x code maxLocals ret World_1 tables_1 room_1 Calls_1 rest_1 Pre_1 Post := by
  intro l hfl _ _ p e ha hc hk s m args below hf hA hF happ hP
  obtain ⟨hcalls, hrest, hpre⟩ := hP
  obtain ⟨-, -, -, hnamed, -, -, -, hat⟩ := (Spec.applies_iff hf).mp happ
  obtain ⟨hg, hn⟩ := and_e (Cond.before_iff.mp (show (Jvm.Cond.and given_1 narrow_1).before args s = true from hpre))
  obtain ⟨hcnt, hgv⟩ := and_e hg
  obtain ⟨g0, r0⟩ := and_e hgv
  obtain ⟨g1, r1⟩ := and_e r0
  obtain ⟨g2, r2⟩ := and_e r1
  obtain ⟨w0, w1, w2, w3, rfl⟩ : ∃ w0 w1 w2 w3 : Value, args = #[w0, w1, w2, w3] := by
    have hs : args.size = 4 := by simpa [Cond.value, given_1] using hcnt
    obtain ⟨L⟩ := args
    match L, hs with
    | [w0, w1, w2, w3], _ => exact ⟨w0, w1, w2, w3, rfl⟩
  have hw := fun d (hd : d ∈ tables_1) => atoms_spec (ws := Jvm.Cond.code x code maxLocals ret :: tables_1) hat d (List.mem_cons_of_mem _ hd)
  obtain ⟨hsets, hown0⟩ := atoms_of _ (rest_1_c_eq ▸ (show rest_1_c.before _ s = true from hrest))
  have hr0 := Cond.before_iff.mp hown0
  obtain ⟨i0, e0⟩ := is_v g0
  obtain rfl : w0 = (.int i0) := Option.some.inj e0
  obtain ⟨i1, e1⟩ := is_v g1
  obtain rfl : w1 = (.int i1) := Option.some.inj e1
  obtain ⟨i2, e2⟩ := is_v g2
  obtain rfl : w2 = (.int i2) := Option.some.inj e2
  obtain ⟨i3, e3⟩ := is_v r2
  obtain rfl : w3 = (.int i3) := Option.some.inj e3
  have n5 := not_v (Cond.before_iff.mp (hsets _ (List.mem_of_getElem? (i := 2) rfl)))
  obtain ⟨i11, e10⟩ := is_v (Cond.before_iff.mp (hsets _ (List.mem_of_getElem? (i := 1) rfl)))
  have S12 : Sta s s.heap "java/lang/String" "COMPACT_STRINGS" "Z" (.int i11) := Sta.start e10 (Or.inl (hsets _ (List.mem_of_getElem? (i := 0) rfl)))
  obtain ⟨v13, e14, r15⟩ := isR_v (Cond.before_iff.mp (hsets _ (List.mem_of_getElem? (i := 8) rfl)))
  have S16 : Sta s s.heap "jdk/internal/util/Preconditions" "SIOOBE_FORMATTER" "Ljava/util/function/BiFunction;" v13 := Sta.start e14 (Or.inl (hsets _ (List.mem_of_getElem? (i := 7) rfl)))
  have c17 : ¬ (i11 = (0 : Int32)) := gotF (Cond.eq_ints e10 (Term.int_eval (0))) n5
  have hG : Gl s := ⟨⟨i11, S12, c17⟩, v13, S16, r15⟩
  have hE : EW s #[.int i0, .int i1, .int i2, .int i3] EL0 := EW.cons (wd hw 18 rfl) (by decide) (EW.nil)
  have hCH : CHv s EL0 s.vm s.heap := CHv.start hE (fun q hq => hcalls.1 q hq) (hsets _ (List.mem_of_getElem? (i := 2) rfl)) (wd hw 19 rfl) (wd hw 5 rfl)
  obtain ⟨n, o, h1, h2, h3, v, L, rfl, ⟨w, rfl, rfl⟩, N, -, -, ⟨r1, r2, r3, r4⟩, hnw⟩ := c_law l s _ hw hE (Old.start s) hG i0 i1 i2 i3 tables_1 p e ha hc hk s m _ below hf ((Spec.applies_iff_loose hf).mp happ).1 ⟨rfl, rfl, State.Warmed39.refl s, hCH, fun _ q => nomatch q⟩ trivial
  exact ⟨n, _, h1, h2, h3, hpost _ _ _ _ _ _ ⟨Cond.after_iff.mpr rfl, Cond.after_iff.mpr (eq_i res_at (Term.int_eval (1)) rfl), trivial⟩ ⟨r1, r2, r3, (r4.sift fun y hy => Or.inr (N y hy)).mono (by decide) (by decide)⟩⟩
theorem main_1_1 : Claimed_1_1 := comes_1 fun _ _ _ _ _ _ h hF => ⟨h.1, hF⟩
theorem main_1_2 : Claimed_1_2 := comes_1 fun _ _ _ _ _ _ h hF => ⟨h.2.1, hF⟩
end Jvm.Pilot.@@N@@
namespace Jvm.Pilot.@@N@@
open Jvm Jvm.ClassFile Sem Op Lib Jvm.Free Jvm.Stand Jvm.Pilot.@@N@@.Jvm.D
/-! MADE BY PROGRAM (witnessworld.py) out of the Statement's table words and the real class files: 21 classes; the members and pool entries that the words name. The judged class is class 1, her method 1. -/
namespace start1
open Jvm.ClassFile
def u (s : String) : CpInfo := .utf8 (stringToUtf16 s)
/-- a pool by its gaps: so many unusable entries, then the entry; so many at the end -/
def gap : Nat → List CpInfo → List CpInfo
  | 0, r => r
  | n + 1, r => .unusable :: gap n r
def poolList (es : List (Nat × CpInfo)) (last : Nat) : List CpInfo := es.foldr (fun e r => gap e.1 (e.2 :: r)) (gap last [])
def pool (es : List (Nat × CpInfo)) (last : Nat) : Array CpInfo := ⟨poolList es last⟩
def fileOf (pool : Array CpInfo) (this : Nat) (attrs : Array Attribute := #[]) (ms : Array MethodInfo := #[]) (fl : Nat := 33) (sup : Nat := 0) (ifs : Array Nat := #[]) (fds : Array FieldInfo := #[]) : ClassFile where
  minorVersion := 0
  majorVersion := 65
  constantPool := pool
  accessFlags := fl
  thisClass := this
  superClass := sup
  interfaces := ifs
  fields := fds
  methods := ms
  attributes := attrs
def plain (name : String) (sup : Option ClassId) : Class where
  name := name
  kind := .ordinary
  loader := none
  accessFlags := 33
  super := sup
  interfaces := #[]
  cf := none
  fields := #[]
  methods := #[]
  instanceTypes := #[]
  staticTypes := #[]
  resolved := #[]
  callSites := []
  init := .initialized
  statics := none
  mirror := none

def pool0 : Array CpInfo := pool [(5, u "<init>"), (0, u "()V"), (1, .class_ 10), (1, u "java/lang/Object"), (85, u "clone"), (0, u "()Ljava/lang/Object;")] 26

def k0c0 : Code := { maxStack := 0, maxLocals := 1, code := object_method_1_code, exceptionTable := #[], attributes := #[] }
def k0m0 : Method := { name := "<init>", desc := "()V", sig := { parameters := [], returnType := none }, accessFlags := 1, code := some k0c0 }
def k0m1 : Method := { name := "clone", desc := "()Ljava/lang/Object;", sig := { parameters := [], returnType := some (.object "java/lang/Object") }, accessFlags := 260, code := none }
/-- java/lang/Object -/
def k0 : Class := { plain "java/lang/Object" none with
  accessFlags := 33
  interfaces := #[]
  cf := some (fileOf pool0 8 #[] #[{ accessFlags := 1, nameIndex := 5, descriptorIndex := 6, attributes := #[] }, { accessFlags := 260, nameIndex := 96, descriptorIndex := 97, attributes := #[] }] 33 0 #[] #[])
  fields := #[]
  methods := #[k0m0, k0m1]
  instanceTypes := #[]
  staticTypes := #[]
  resolved := Array.replicate 124 none
  statics := none }

def pool1 : Array CpInfo := pool [(2, .class_ 4), (1, u "java/lang/Object"), (0, u "<init>"), (0, u "()V"), (0, .methodref 8 9), (0, .class_ 10), (0, .nameAndType 11 12), (0, u "com/example/trestle/trestle/action/ActionMessageWithBundlePinLaw"), (0, u "str"), (0, u "(I)Ljava/lang/String;"), (0, .class_ 14), (0, u "com/example/trestle/trestle/action/ActionMessage"), (0, .methodref 13 16), (0, .nameAndType 5 17), (0, u "(Ljava/lang/String;Z)V"), (0, .methodref 13 19), (0, .nameAndType 20 21), (0, u "withBundle"), (0, u "(Ljava/lang/String;)Lcom/example/trestle/trestle/action/ActionMessage;"), (0, .methodref 13 23), (0, .nameAndType 24 25), (0, u "getBundle"), (0, u "()Ljava/lang/String;"), (0, .methodref 8 27), (0, .nameAndType 28 29), (0, u "same"), (0, u "(Ljava/lang/String;Ljava/lang/String;)Z"), (0, .methodref 13 31), (0, .nameAndType 32 25), (0, u "getKey"), (0, .methodref 13 34), (0, .nameAndType 35 36), (0, u "isResource"), (0, u "()Z"), (0, .methodref 13 38), (0, .nameAndType 39 40), (0, u "getValues"), (0, u "()[Ljava/lang/Object;"), (0, .methodref 42 43), (0, .class_ 44), (0, .nameAndType 45 46), (0, u "java/lang/String"), (0, u "equals"), (0, u "(Ljava/lang/Object;)Z"), (0, .methodref 42 48), (0, .nameAndType 5 49), (0, u "([C)V"), (2, u "law"), (0, u "(IIII)Z")] 3

def k1m0 : Method := { name := "<init>", desc := "()V", sig := { parameters := [], returnType := none }, accessFlags := 1, code := none }
def k1c1 : Code := { maxStack := 4, maxLocals := 17, code := code, exceptionTable := #[], attributes := #[] }
def k1m1 : Method := { name := "law", desc := "(IIII)Z", sig := { parameters := [.int, .int, .int, .int], returnType := some .boolean }, accessFlags := 9, code := some k1c1 }
def k1c2 : Code := { maxStack := 2, maxLocals := 2, code := method_3_code, exceptionTable := #[], attributes := #[] }
def k1m2 : Method := { name := "same", desc := "(Ljava/lang/String;Ljava/lang/String;)Z", sig := { parameters := [(.object "java/lang/String"), (.object "java/lang/String")], returnType := some .boolean }, accessFlags := 10, code := some k1c2 }
def k1c3 : Code := { maxStack := 6, maxLocals := 5, code := method_4_code, exceptionTable := #[], attributes := #[] }
def k1m3 : Method := { name := "str", desc := "(I)Ljava/lang/String;", sig := { parameters := [.int], returnType := some (.object "java/lang/String") }, accessFlags := 10, code := some k1c3 }
/-- com/example/trestle/trestle/action/ActionMessageWithBundlePinLaw -/
def k1 : Class := { plain "com/example/trestle/trestle/action/ActionMessageWithBundlePinLaw" (some 0) with
  accessFlags := 49
  interfaces := #[]
  cf := some (fileOf pool1 8 #[] #[{ accessFlags := 1, nameIndex := 5, descriptorIndex := 6, attributes := #[] }, { accessFlags := 9, nameIndex := 52, descriptorIndex := 53, attributes := #[] }, { accessFlags := 10, nameIndex := 28, descriptorIndex := 29, attributes := #[] }, { accessFlags := 10, nameIndex := 11, descriptorIndex := 12, attributes := #[] }] 49 2 #[] #[])
  fields := #[]
  methods := #[k1m0, k1m1, k1m2, k1m3]
  instanceTypes := #[]
  staticTypes := #[]
  resolved := Array.replicate 57 none
  statics := none }

def pool2 : Array CpInfo := pool [(1, .class_ 2), (0, u "java/io/Serializable"), (0, .class_ 4), (0, u "java/lang/Object")] 2

/-- java/io/Serializable -/
def k2 : Class := { plain "java/io/Serializable" (some 0) with
  accessFlags := 1537
  interfaces := #[]
  cf := some (fileOf pool2 1 #[] #[] 1537 3 #[] #[])
  fields := #[]
  methods := #[]
  instanceTypes := #[]
  staticTypes := #[]
  resolved := Array.replicate 7 none
  statics := none }

def pool3 : Array CpInfo := pool [(1, .class_ 2), (0, u "java/lang/Comparable"), (0, .class_ 4), (0, u "java/lang/Object")] 7

/-- java/lang/Comparable -/
def k3 : Class := { plain "java/lang/Comparable" (some 0) with
  accessFlags := 1537
  interfaces := #[]
  cf := some (fileOf pool3 1 #[] #[] 1537 3 #[] #[])
  fields := #[]
  methods := #[]
  instanceTypes := #[]
  staticTypes := #[]
  resolved := Array.replicate 12 none
  statics := none }

def pool4 : Array CpInfo := pool [(2, .class_ 4), (1, u "java/lang/CharSequence"), (42, .class_ 48), (0, u "java/lang/CharSequence$1CodePointIterator"), (10, .class_ 60), (0, u "java/lang/CharSequence$1CharIterator"), (5, .class_ 67), (0, u "java/lang/Object")] 63

/-- java/lang/CharSequence -/
def k4 : Class := { plain "java/lang/CharSequence" (some 0) with
  accessFlags := 1537
  interfaces := #[]
  cf := some (fileOf pool4 2 #[.nestMembers #[47, 59]] #[] 1537 66 #[] #[])
  fields := #[]
  methods := #[]
  instanceTypes := #[]
  staticTypes := #[]
  resolved := Array.replicate 131 none
  statics := none }

def pool5 : Array CpInfo := pool [(1, .class_ 2), (0, u "java/lang/constant/Constable"), (0, .class_ 4), (0, u "java/lang/Object")] 6

/-- java/lang/constant/Constable -/
def k5 : Class := { plain "java/lang/constant/Constable" (some 0) with
  accessFlags := 1537
  interfaces := #[]
  cf := some (fileOf pool5 1 #[] #[] 1537 3 #[] #[])
  fields := #[]
  methods := #[]
  instanceTypes := #[]
  staticTypes := #[]
  resolved := Array.replicate 11 none
  statics := none }

def pool6 : Array CpInfo := pool [(1, .class_ 2), (0, u "java/lang/constant/ConstantDesc"), (0, .class_ 4), (0, u "java/lang/Object")] 32

/-- java/lang/constant/ConstantDesc -/
def k6 : Class := { plain "java/lang/constant/ConstantDesc" (some 0) with
  accessFlags := 1537
  interfaces := #[]
  cf := some (fileOf pool6 1 #[] #[] 1537 3 #[] #[])
  fields := #[]
  methods := #[]
  instanceTypes := #[]
  staticTypes := #[]
  resolved := Array.replicate 37 none
  statics := none }

def pool7 : Array CpInfo := pool [(1, .methodref 2 3), (0, .class_ 4), (0, .nameAndType 5 6), (0, u "java/lang/Object"), (0, u "<init>"), (0, u "()V"), (0, .string 8), (0, u ""), (0, .fieldref 10 11), (0, .class_ 12), (0, .nameAndType 13 14), (0, u "java/lang/String"), (0, u "value"), (0, u "[B"), (0, .fieldref 10 16), (0, .nameAndType 17 18), (0, u "coder"), (0, u "B"), (2, u "hash"), (0, u "I"), (2, u "hashIsZero"), (0, u "Z"), (0, .methodref 10 28), (0, .nameAndType 5 29), (0, u "([CIILjava/lang/Void;)V"), (8, .fieldref 10 39), (0, .nameAndType 40 26), (0, u "COMPACT_STRINGS"), (1, .class_ 44), (1, u "java/lang/StringUTF16"), (0, u "compress"), (1, .methodref 42 48), (0, .nameAndType 49 50), (0, u "coderFromArrayLen"), (0, u "([BI)B"), (126, .methodref 42 178), (0, .nameAndType 45 179), (0, u "([CII)[B"), (363, u "equals"), (29, u "(Ljava/lang/Object;)Z"), (1, .class_ 576), (0, u "java/lang/CharSequence"), (22, u "CASE_INSENSITIVE_ORDER"), (0, u "Ljava/util/Comparator;"), (409, u "([C)V"), (90, u "serialPersistentFields"), (0, u "[Ljava/io/ObjectStreamField;"), (0, .class_ 1104), (0, u "java/lang/String$CaseInsensitiveComparator"), (1, .class_ 1107), (0, u "java/io/Serializable"), (0, .class_ 1109), (0, u "java/lang/Comparable"), (0, .class_ 1111), (0, u "java/lang/constant/Constable"), (0, .class_ 1113), (0, u "java/lang/constant/ConstantDesc"), (2, u "serialVersionUID"), (0, u "J"), (3, u "REPL"), (0, u "C"), (2, u "LATIN1"), (1, u "UTF16")] 323

def k7m0 : Method := { name := "<init>", desc := "()V", sig := { parameters := [], returnType := none }, accessFlags := 1, code := none }
def k7c1 : Code := { maxStack := 5, maxLocals := 2, code := jdk_42_method_3_code, exceptionTable := #[], attributes := #[] }
def k7m1 : Method := { name := "<init>", desc := "([C)V", sig := { parameters := [(.array .char)], returnType := none }, accessFlags := 1, code := some k7c1 }
def k7c2 : Code := { maxStack := 2, maxLocals := 3, code := jdk_42_method_66_code, exceptionTable := #[], attributes := #[] }
def k7m2 : Method := { name := "equals", desc := "(Ljava/lang/Object;)Z", sig := { parameters := [(.object "java/lang/Object")], returnType := some .boolean }, accessFlags := 1, code := some k7c2 }
def k7c3 : Code := { maxStack := 4, maxLocals := 6, code := jdk_42_method_149_code, exceptionTable := #[], attributes := #[] }
def k7m3 : Method := { name := "<init>", desc := "([CIILjava/lang/Void;)V", sig := { parameters := [(.array .char), .int, .int, (.object "java/lang/Void")], returnType := none }, accessFlags := 2, code := some k7c3 }
/-- java/lang/String -/
def k7 : Class := { plain "java/lang/String" (some 0) with
  accessFlags := 49
  interfaces := #[2, 3, 4, 5, 6]
  cf := some (fileOf pool7 10 #[.nestMembers #[1103]] #[{ accessFlags := 1, nameIndex := 5, descriptorIndex := 6, attributes := #[] }, { accessFlags := 1, nameIndex := 5, descriptorIndex := 1010, attributes := #[] }, { accessFlags := 1, nameIndex := 543, descriptorIndex := 573, attributes := #[] }, { accessFlags := 2, nameIndex := 5, descriptorIndex := 29, attributes := #[] }] 49 2 #[1106, 1108, 575, 1110, 1112] #[{ accessFlags := 18, nameIndex := 13, descriptorIndex := 14, attributes := #[] }, { accessFlags := 18, nameIndex := 17, descriptorIndex := 18, attributes := #[] }, { accessFlags := 2, nameIndex := 21, descriptorIndex := 22, attributes := #[] }, { accessFlags := 2, nameIndex := 25, descriptorIndex := 26, attributes := #[] }, { accessFlags := 26, nameIndex := 1116, descriptorIndex := 1117, attributes := #[] }, { accessFlags := 24, nameIndex := 40, descriptorIndex := 26, attributes := #[] }, { accessFlags := 26, nameIndex := 1101, descriptorIndex := 1102, attributes := #[] }, { accessFlags := 26, nameIndex := 1121, descriptorIndex := 1122, attributes := #[] }, { accessFlags := 25, nameIndex := 599, descriptorIndex := 600, attributes := #[] }, { accessFlags := 24, nameIndex := 1125, descriptorIndex := 18, attributes := #[] }, { accessFlags := 24, nameIndex := 1127, descriptorIndex := 18, attributes := #[] }])
  fields := #[{ name := "value", type := (.array .byte), accessFlags := 18, slot := 0, constantValue := 0 }, { name := "coder", type := .byte, accessFlags := 18, slot := 1, constantValue := 0 }, { name := "hash", type := .int, accessFlags := 2, slot := 2, constantValue := 0 }, { name := "hashIsZero", type := .boolean, accessFlags := 2, slot := 3, constantValue := 0 }, { name := "serialVersionUID", type := .long, accessFlags := 26, slot := 0, constantValue := 0 }, { name := "COMPACT_STRINGS", type := .boolean, accessFlags := 24, slot := 1, constantValue := 0 }, { name := "serialPersistentFields", type := (.array (.object "java/io/ObjectStreamField")), accessFlags := 26, slot := 2, constantValue := 0 }, { name := "REPL", type := .char, accessFlags := 26, slot := 3, constantValue := 0 }, { name := "CASE_INSENSITIVE_ORDER", type := (.object "java/util/Comparator"), accessFlags := 25, slot := 4, constantValue := 0 }, { name := "LATIN1", type := .byte, accessFlags := 24, slot := 5, constantValue := 0 }, { name := "UTF16", type := .byte, accessFlags := 24, slot := 6, constantValue := 0 }]
  methods := #[k7m0, k7m1, k7m2, k7m3]
  instanceTypes := #[(.array .byte), .byte, .int, .boolean]
  staticTypes := #[.long, .boolean, (.array (.object "java/io/ObjectStreamField")), .char, (.object "java/util/Comparator"), .byte, .byte]
  resolved := Array.replicate 1451 none
  statics := some 0 }

def pool8 : Array CpInfo := pool [(6, .class_ 8), (1, u "java/lang/Object"), (0, u "<init>"), (0, u "()V"), (1, .class_ 14), (1, u "java/lang/StringUTF16"), (31, u "$assertionsDisabled"), (0, u "Z"), (13, u "HI_BYTE_SHIFT"), (0, u "I"), (2, u "LO_BYTE_SHIFT"), (49, .methodref 12 116), (0, .nameAndType 117 118), (0, u "compress"), (0, u "([CI[BII)I"), (3, u "([CII)[B"), (138, u "coderFromArrayLen"), (0, u "([BI)B"), (106, .class_ 371), (1, u "java/lang/StringUTF16$LinesSpliterator"), (58, u "MAX_LENGTH"), (196, .class_ 628), (0, u "java/lang/StringUTF16$CodePointsSpliterator"), (0, .class_ 630), (0, u "java/lang/StringUTF16$CharsSpliterator")] 4

def k8m0 : Method := { name := "<init>", desc := "()V", sig := { parameters := [], returnType := none }, accessFlags := 0, code := none }
def k8c1 : Code := { maxStack := 2, maxLocals := 2, code := jdk_52_method_15_code, exceptionTable := #[], attributes := #[] }
def k8m1 : Method := { name := "coderFromArrayLen", desc := "([BI)B", sig := { parameters := [(.array .byte), .int], returnType := some .byte }, accessFlags := 8, code := some k8c1 }
def k8c2 : Code := { maxStack := 5, maxLocals := 6, code := jdk_52_method_16_code, exceptionTable := #[], attributes := #[] }
def k8m2 : Method := { name := "compress", desc := "([CII)[B", sig := { parameters := [(.array .char), .int, .int], returnType := some (.array .byte) }, accessFlags := 9, code := some k8c2 }
def k8c3 : Code := { maxStack := 3, maxLocals := 7, code := jdk_52_method_21_code, exceptionTable := #[], attributes := #[] }
def k8m3 : Method := { name := "compress", desc := "([CI[BII)I", sig := { parameters := [(.array .char), .int, (.array .byte), .int, .int], returnType := some .int }, accessFlags := 9, code := some k8c3 }
/-- java/lang/StringUTF16 -/
def k8 : Class := { plain "java/lang/StringUTF16" (some 0) with
  accessFlags := 48
  interfaces := #[]
  cf := some (fileOf pool8 12 #[.nestMembers #[627, 629, 369]] #[{ accessFlags := 0, nameIndex := 9, descriptorIndex := 10, attributes := #[] }, { accessFlags := 8, nameIndex := 261, descriptorIndex := 262, attributes := #[] }, { accessFlags := 9, nameIndex := 117, descriptorIndex := 122, attributes := #[] }, { accessFlags := 9, nameIndex := 117, descriptorIndex := 118, attributes := #[] }] 48 6 #[] #[{ accessFlags := 26, nameIndex := 61, descriptorIndex := 62, attributes := #[] }, { accessFlags := 26, nameIndex := 65, descriptorIndex := 62, attributes := #[] }, { accessFlags := 24, nameIndex := 430, descriptorIndex := 62, attributes := #[] }, { accessFlags := 4120, nameIndex := 46, descriptorIndex := 47, attributes := #[] }])
  fields := #[{ name := "HI_BYTE_SHIFT", type := .int, accessFlags := 26, slot := 0, constantValue := 0 }, { name := "LO_BYTE_SHIFT", type := .int, accessFlags := 26, slot := 1, constantValue := 0 }, { name := "MAX_LENGTH", type := .int, accessFlags := 24, slot := 2, constantValue := 0 }, { name := "$assertionsDisabled", type := .boolean, accessFlags := 4120, slot := 3, constantValue := 0 }]
  methods := #[k8m0, k8m1, k8m2, k8m3]
  instanceTypes := #[]
  staticTypes := #[.int, .int, .int, .boolean]
  resolved := Array.replicate 635 none
  statics := none }

def pool9 : Array CpInfo := pool [(1, .class_ 2), (0, u "java/lang/Object"), (1, .class_ 6), (1, u "com/example/trestle/trestle/action/ActionMessage"), (0, u "<init>"), (1, .methodref 4 10), (0, .nameAndType 7 11), (0, u "(Ljava/lang/String;[Ljava/lang/Object;Z)V"), (0, .methodref 13 14), (0, .class_ 15), (0, .nameAndType 16 17), (0, u "[Ljava/lang/Object;"), (0, u "clone"), (0, u "()Ljava/lang/Object;"), (0, .methodref 4 19), (0, .nameAndType 7 20), (0, u "(Ljava/lang/String;[Ljava/lang/Object;ZLjava/lang/String;)V"), (0, .methodref 1 22), (0, .nameAndType 7 23), (0, u "()V"), (0, .fieldref 4 25), (0, .nameAndType 26 27), (0, u "key"), (0, u "Ljava/lang/String;"), (0, .fieldref 4 29), (0, .nameAndType 30 15), (0, u "values"), (0, .fieldref 4 32), (0, .nameAndType 33 34), (0, u "resource"), (0, u "Z"), (0, .fieldref 4 36), (0, .nameAndType 37 27), (0, u "bundle"), (10, .class_ 49), (0, u "java/io/Serializable"), (0, u "serialVersionUID"), (0, u "J"), (10, u "(Ljava/lang/String;Z)V"), (3, u "withBundle"), (0, u "(Ljava/lang/String;)Lcom/example/trestle/trestle/action/ActionMessage;"), (0, u "getKey"), (0, u "()Ljava/lang/String;"), (0, u "getValues"), (0, u "()[Ljava/lang/Object;"), (0, u "isResource"), (0, u "()Z"), (0, u "getBundle")] 17

def k9c0 : Code := { maxStack := 4, maxLocals := 3, code := prog_4_method_7_code, exceptionTable := #[], attributes := #[] }
def k9m0 : Method := { name := "<init>", desc := "(Ljava/lang/String;Z)V", sig := { parameters := [(.object "java/lang/String"), .boolean], returnType := none }, accessFlags := 1, code := some k9c0 }
def k9c1 : Code := { maxStack := 5, maxLocals := 4, code := prog_4_method_8_code, exceptionTable := #[], attributes := #[] }
def k9m1 : Method := { name := "<init>", desc := "(Ljava/lang/String;[Ljava/lang/Object;Z)V", sig := { parameters := [(.object "java/lang/String"), (.array (.object "java/lang/Object")), .boolean], returnType := none }, accessFlags := 2, code := some k9c1 }
def k9c2 : Code := { maxStack := 2, maxLocals := 5, code := prog_4_method_9_code, exceptionTable := #[], attributes := #[] }
def k9m2 : Method := { name := "<init>", desc := "(Ljava/lang/String;[Ljava/lang/Object;ZLjava/lang/String;)V", sig := { parameters := [(.object "java/lang/String"), (.array (.object "java/lang/Object")), .boolean, (.object "java/lang/String")], returnType := none }, accessFlags := 2, code := some k9c2 }
def k9c3 : Code := { maxStack := 6, maxLocals := 2, code := prog_4_method_10_code, exceptionTable := #[], attributes := #[] }
def k9m3 : Method := { name := "withBundle", desc := "(Ljava/lang/String;)Lcom/example/trestle/trestle/action/ActionMessage;", sig := { parameters := [(.object "java/lang/String")], returnType := some (.object "com/example/trestle/trestle/action/ActionMessage") }, accessFlags := 1, code := some k9c3 }
def k9c4 : Code := { maxStack := 1, maxLocals := 1, code := prog_4_method_11_code, exceptionTable := #[], attributes := #[] }
def k9m4 : Method := { name := "getKey", desc := "()Ljava/lang/String;", sig := { parameters := [], returnType := some (.object "java/lang/String") }, accessFlags := 1, code := some k9c4 }
def k9c5 : Code := { maxStack := 1, maxLocals := 1, code := prog_4_method_12_code, exceptionTable := #[], attributes := #[] }
def k9m5 : Method := { name := "getValues", desc := "()[Ljava/lang/Object;", sig := { parameters := [], returnType := some (.array (.object "java/lang/Object")) }, accessFlags := 1, code := some k9c5 }
def k9c6 : Code := { maxStack := 1, maxLocals := 1, code := prog_4_method_13_code, exceptionTable := #[], attributes := #[] }
def k9m6 : Method := { name := "isResource", desc := "()Z", sig := { parameters := [], returnType := some .boolean }, accessFlags := 1, code := some k9c6 }
def k9c7 : Code := { maxStack := 1, maxLocals := 1, code := prog_4_method_14_code, exceptionTable := #[], attributes := #[] }
def k9m7 : Method := { name := "getBundle", desc := "()Ljava/lang/String;", sig := { parameters := [], returnType := some (.object "java/lang/String") }, accessFlags := 1, code := some k9c7 }
/-- com/example/trestle/trestle/action/ActionMessage -/
def k9 : Class := { plain "com/example/trestle/trestle/action/ActionMessage" (some 0) with
  accessFlags := 33
  interfaces := #[2]
  cf := some (fileOf pool9 4 #[] #[{ accessFlags := 1, nameIndex := 7, descriptorIndex := 62, attributes := #[] }, { accessFlags := 2, nameIndex := 7, descriptorIndex := 11, attributes := #[] }, { accessFlags := 2, nameIndex := 7, descriptorIndex := 20, attributes := #[] }, { accessFlags := 1, nameIndex := 66, descriptorIndex := 67, attributes := #[] }, { accessFlags := 1, nameIndex := 68, descriptorIndex := 69, attributes := #[] }, { accessFlags := 1, nameIndex := 70, descriptorIndex := 71, attributes := #[] }, { accessFlags := 1, nameIndex := 72, descriptorIndex := 73, attributes := #[] }, { accessFlags := 1, nameIndex := 74, descriptorIndex := 69, attributes := #[] }] 33 1 #[48] #[{ accessFlags := 26, nameIndex := 50, descriptorIndex := 51, attributes := #[] }, { accessFlags := 18, nameIndex := 26, descriptorIndex := 27, attributes := #[] }, { accessFlags := 18, nameIndex := 30, descriptorIndex := 15, attributes := #[] }, { accessFlags := 18, nameIndex := 33, descriptorIndex := 34, attributes := #[] }, { accessFlags := 18, nameIndex := 37, descriptorIndex := 27, attributes := #[] }])
  fields := #[{ name := "serialVersionUID", type := .long, accessFlags := 26, slot := 0, constantValue := 0 }, { name := "key", type := (.object "java/lang/String"), accessFlags := 18, slot := 0, constantValue := 0 }, { name := "values", type := (.array (.object "java/lang/Object")), accessFlags := 18, slot := 1, constantValue := 0 }, { name := "resource", type := .boolean, accessFlags := 18, slot := 2, constantValue := 0 }, { name := "bundle", type := (.object "java/lang/String"), accessFlags := 18, slot := 3, constantValue := 0 }]
  methods := #[k9m0, k9m1, k9m2, k9m3, k9m4, k9m5, k9m6, k9m7]
  instanceTypes := #[(.object "java/lang/String"), (.array (.object "java/lang/Object")), .boolean, (.object "java/lang/String")]
  staticTypes := #[.long]
  resolved := Array.replicate 92 none
  statics := none }

def pool10 : Array CpInfo := pool [(1, .class_ 2), (0, u "java/lang/Cloneable"), (0, .class_ 4), (0, u "java/lang/Object")] 2

/-- java/lang/Cloneable -/
def k10 : Class := { plain "java/lang/Cloneable" (some 0) with
  accessFlags := 1537
  interfaces := #[]
  cf := some (fileOf pool10 1 #[] #[] 1537 3 #[] #[])
  fields := #[]
  methods := #[]
  instanceTypes := #[]
  staticTypes := #[]
  resolved := Array.replicate 7 none
  statics := none }

def pool11 : Array CpInfo := pool [(4, .class_ 6), (1, u "java/lang/Object"), (0, u "<init>"), (0, u "()V"), (5, .class_ 16), (1, u "java/lang/StringLatin1"), (104, u "$assertionsDisabled"), (0, u "Z"), (98, .class_ 223), (1, u "java/lang/StringLatin1$LinesSpliterator"), (166, .class_ 391), (0, u "java/lang/StringLatin1$CharsSpliterator")] 3

def k11m0 : Method := { name := "<init>", desc := "()V", sig := { parameters := [], returnType := none }, accessFlags := 0, code := none }
/-- java/lang/StringLatin1 -/
def k11 : Class := { plain "java/lang/StringLatin1" (some 0) with
  accessFlags := 48
  interfaces := #[]
  cf := some (fileOf pool11 14 #[.nestMembers #[390, 221]] #[{ accessFlags := 0, nameIndex := 7, descriptorIndex := 8, attributes := #[] }] 48 4 #[] #[{ accessFlags := 4120, nameIndex := 121, descriptorIndex := 122, attributes := #[] }])
  fields := #[{ name := "$assertionsDisabled", type := .boolean, accessFlags := 4120, slot := 0, constantValue := 0 }]
  methods := #[k11m0]
  instanceTypes := #[]
  staticTypes := #[.boolean]
  resolved := Array.replicate 395 none
  statics := none }

def pool12 : Array CpInfo := pool [(2, .class_ 4), (1, u "java/lang/Object"), (0, u "<init>"), (0, u "()V"), (17, .class_ 26), (1, u "jdk/internal/util/Preconditions"), (28, .class_ 56), (0, u "jdk/internal/util/Preconditions$4"), (57, .class_ 115), (0, u "jdk/internal/util/Preconditions$1"), (7, u "SIOOBE_FORMATTER"), (0, u "Ljava/util/function/BiFunction;"), (0, .class_ 126), (0, u "jdk/internal/util/Preconditions$2"), (3, u "AIOOBE_FORMATTER"), (0, .class_ 132), (0, u "jdk/internal/util/Preconditions$3"), (3, u "IOOBE_FORMATTER")] 57

def k12m0 : Method := { name := "<init>", desc := "()V", sig := { parameters := [], returnType := none }, accessFlags := 1, code := none }
/-- jdk/internal/util/Preconditions -/
def k12 : Class := { plain "jdk/internal/util/Preconditions" (some 0) with
  accessFlags := 33
  interfaces := #[]
  cf := some (fileOf pool12 24 #[.nestMembers #[55, 131, 125, 114]] #[{ accessFlags := 1, nameIndex := 5, descriptorIndex := 6, attributes := #[] }] 33 2 #[] #[{ accessFlags := 25, nameIndex := 123, descriptorIndex := 124, attributes := #[] }, { accessFlags := 25, nameIndex := 130, descriptorIndex := 124, attributes := #[] }, { accessFlags := 25, nameIndex := 136, descriptorIndex := 124, attributes := #[] }])
  fields := #[{ name := "SIOOBE_FORMATTER", type := (.object "java/util/function/BiFunction"), accessFlags := 25, slot := 0, constantValue := 0 }, { name := "AIOOBE_FORMATTER", type := (.object "java/util/function/BiFunction"), accessFlags := 25, slot := 1, constantValue := 0 }, { name := "IOOBE_FORMATTER", type := (.object "java/util/function/BiFunction"), accessFlags := 25, slot := 2, constantValue := 0 }]
  methods := #[k12m0]
  instanceTypes := #[]
  staticTypes := #[(.object "java/util/function/BiFunction"), (.object "java/util/function/BiFunction"), (.object "java/util/function/BiFunction")]
  resolved := Array.replicate 194 none
  statics := some 1 }

def pool13 : Array CpInfo := pool [(9, u "<init>"), (6, .class_ 18), (1, u "java/lang/Object"), (0, u "()V"), (1, .class_ 23), (1, u "jdk/internal/util/ArraysSupport"), (0, u "LOG2_ARRAY_LONG_INDEX_SCALE"), (0, u "I"), (2, u "U"), (0, u "Ljdk/internal/misc/Unsafe;"), (8, u "BIG_ENDIAN"), (0, u "Z"), (8, u "LOG2_BYTE_BIT_SIZE"), (4, u "LOG2_ARRAY_INT_INDEX_SCALE"), (54, u "JLA"), (0, u "Ljdk/internal/access/JavaLangAccess;"), (11, u "LOG2_ARRAY_BOOLEAN_INDEX_SCALE"), (9, u "LOG2_ARRAY_BYTE_INDEX_SCALE"), (5, u "LOG2_ARRAY_CHAR_INDEX_SCALE"), (5, u "LOG2_ARRAY_SHORT_INDEX_SCALE"), (18, u "LOG2_ARRAY_FLOAT_INDEX_SCALE"), (24, u "LOG2_ARRAY_DOUBLE_INDEX_SCALE"), (89, u "T_BOOLEAN"), (2, u "T_CHAR"), (1, u "T_FLOAT"), (1, u "T_DOUBLE"), (1, u "T_BYTE"), (1, u "T_SHORT"), (1, u "T_INT"), (1, u "T_LONG"), (1, u "SOFT_MAX_ARRAY_LENGTH")] 83

def k13m0 : Method := { name := "<init>", desc := "()V", sig := { parameters := [], returnType := none }, accessFlags := 2, code := none }
/-- jdk/internal/util/ArraysSupport -/
def k13 : Class := { plain "jdk/internal/util/ArraysSupport" (some 0) with
  accessFlags := 33
  interfaces := #[]
  cf := some (fileOf pool13 21 #[] #[{ accessFlags := 2, nameIndex := 9, descriptorIndex := 19, attributes := #[] }] 33 16 #[] #[{ accessFlags := 24, nameIndex := 28, descriptorIndex := 29, attributes := #[] }, { accessFlags := 26, nameIndex := 38, descriptorIndex := 39, attributes := #[] }, { accessFlags := 25, nameIndex := 121, descriptorIndex := 25, attributes := #[] }, { accessFlags := 25, nameIndex := 131, descriptorIndex := 25, attributes := #[] }, { accessFlags := 25, nameIndex := 137, descriptorIndex := 25, attributes := #[] }, { accessFlags := 25, nameIndex := 143, descriptorIndex := 25, attributes := #[] }, { accessFlags := 25, nameIndex := 53, descriptorIndex := 25, attributes := #[] }, { accessFlags := 25, nameIndex := 24, descriptorIndex := 25, attributes := #[] }, { accessFlags := 25, nameIndex := 162, descriptorIndex := 25, attributes := #[] }, { accessFlags := 25, nameIndex := 187, descriptorIndex := 25, attributes := #[] }, { accessFlags := 26, nameIndex := 48, descriptorIndex := 25, attributes := #[] }, { accessFlags := 25, nameIndex := 277, descriptorIndex := 25, attributes := #[] }, { accessFlags := 25, nameIndex := 280, descriptorIndex := 25, attributes := #[] }, { accessFlags := 25, nameIndex := 282, descriptorIndex := 25, attributes := #[] }, { accessFlags := 25, nameIndex := 284, descriptorIndex := 25, attributes := #[] }, { accessFlags := 25, nameIndex := 286, descriptorIndex := 25, attributes := #[] }, { accessFlags := 25, nameIndex := 288, descriptorIndex := 25, attributes := #[] }, { accessFlags := 25, nameIndex := 290, descriptorIndex := 25, attributes := #[] }, { accessFlags := 25, nameIndex := 292, descriptorIndex := 25, attributes := #[] }, { accessFlags := 26, nameIndex := 108, descriptorIndex := 109, attributes := #[] }, { accessFlags := 25, nameIndex := 294, descriptorIndex := 25, attributes := #[] }])
  fields := #[{ name := "U", type := (.object "jdk/internal/misc/Unsafe"), accessFlags := 24, slot := 0, constantValue := 0 }, { name := "BIG_ENDIAN", type := .boolean, accessFlags := 26, slot := 1, constantValue := 0 }, { name := "LOG2_ARRAY_BOOLEAN_INDEX_SCALE", type := .int, accessFlags := 25, slot := 2, constantValue := 0 }, { name := "LOG2_ARRAY_BYTE_INDEX_SCALE", type := .int, accessFlags := 25, slot := 3, constantValue := 0 }, { name := "LOG2_ARRAY_CHAR_INDEX_SCALE", type := .int, accessFlags := 25, slot := 4, constantValue := 0 }, { name := "LOG2_ARRAY_SHORT_INDEX_SCALE", type := .int, accessFlags := 25, slot := 5, constantValue := 0 }, { name := "LOG2_ARRAY_INT_INDEX_SCALE", type := .int, accessFlags := 25, slot := 6, constantValue := 0 }, { name := "LOG2_ARRAY_LONG_INDEX_SCALE", type := .int, accessFlags := 25, slot := 7, constantValue := 0 }, { name := "LOG2_ARRAY_FLOAT_INDEX_SCALE", type := .int, accessFlags := 25, slot := 8, constantValue := 0 }, { name := "LOG2_ARRAY_DOUBLE_INDEX_SCALE", type := .int, accessFlags := 25, slot := 9, constantValue := 0 }, { name := "LOG2_BYTE_BIT_SIZE", type := .int, accessFlags := 26, slot := 10, constantValue := 0 }, { name := "T_BOOLEAN", type := .int, accessFlags := 25, slot := 11, constantValue := 0 }, { name := "T_CHAR", type := .int, accessFlags := 25, slot := 12, constantValue := 0 }, { name := "T_FLOAT", type := .int, accessFlags := 25, slot := 13, constantValue := 0 }, { name := "T_DOUBLE", type := .int, accessFlags := 25, slot := 14, constantValue := 0 }, { name := "T_BYTE", type := .int, accessFlags := 25, slot := 15, constantValue := 0 }, { name := "T_SHORT", type := .int, accessFlags := 25, slot := 16, constantValue := 0 }, { name := "T_INT", type := .int, accessFlags := 25, slot := 17, constantValue := 0 }, { name := "T_LONG", type := .int, accessFlags := 25, slot := 18, constantValue := 0 }, { name := "JLA", type := (.object "jdk/internal/access/JavaLangAccess"), accessFlags := 26, slot := 19, constantValue := 0 }, { name := "SOFT_MAX_ARRAY_LENGTH", type := .int, accessFlags := 25, slot := 20, constantValue := 0 }]
  methods := #[k13m0]
  instanceTypes := #[]
  staticTypes := #[(.object "jdk/internal/misc/Unsafe"), .boolean, .int, .int, .int, .int, .int, .int, .int, .int, .int, .int, .int, .int, .int, .int, .int, .int, .int, (.object "jdk/internal/access/JavaLangAccess"), .int]
  resolved := Array.replicate 378 none
  statics := none }

/-- the primitive byte -/
def k14 : Class := { plain "byte" none with kind := .primitive 'B', accessFlags := 0x411 }
/-- [B -/
def k15 : Class := { plain "[B" (some 0) with kind := .array 14 .byte, interfaces := #[10, 2], accessFlags := 1041 }

/-- the primitive char -/
def k16 : Class := { plain "char" none with kind := .primitive 'C', accessFlags := 0x411 }
/-- [C -/
def k17 : Class := { plain "[C" (some 0) with kind := .array 16 .char, interfaces := #[10, 2], accessFlags := 1041 }

/-- the primitive int -/
def k18 : Class := { plain "int" none with kind := .primitive 'I', accessFlags := 0x411 }
/-- [I -/
def k19 : Class := { plain "[I" (some 0) with kind := .array 18 .int, interfaces := #[10, 2], accessFlags := 1041 }

/-- [Ljava/lang/Object; -/
def k20 : Class := { plain "[Ljava/lang/Object;" (some 0) with kind := .array 0 (.object "java/lang/Object"), interfaces := #[10, 2], accessFlags := 1041 }

def heap : Heap := #[{ cls := 7, slots := #[.long 0, .int 1, .null, .int 0, .null, .int 0, .int 0], vm := .statics 7 },
  { cls := 12, slots := #[.null, .null, .null], vm := .statics 12 }]
def classes : Array Class := #[k0, k1, k2, k3, k4, k5, k6, k7, k8, k9, k10, k11, k12, k13, k14, k15, k16, k17, k18, k19, k20]
def interned : List (Array UInt16 × Addr) := []
def slotsUsed : Nat := 10
def theMethod : MethodId := ⟨1, 1⟩
def args0 : Array Value := #[.int 5, .int 6, .int 7, .int 1]
def aboutOver (below : List Frame) : State where
  vm := { classes := classes, interned := interned.toArray }
  heap := heap
  slotsUsed := slotsUsed
  threads := #[{ frames := .invoking theMethod args0 :: below }]
def below0 : List Frame := [.native { method := ⟨0, 0⟩, args := #[] }]
def about1 : State := aboutOver below0
def p0 : Program := .bare "" "" ""
def e0 : Env := launch0.env 0 0 0
theorem w_frames : about1.frames = Frame.invoking theMethod args0 :: below0 := rfl
set_option maxRecDepth 65536 in
theorem w_args : argsFit about1.vm theMethod args0 = true := by decide +kernel
set_option maxRecDepth 65536 in
theorem w_heap : heapFits about1 = true := by decide +kernel
set_option maxRecDepth 65536 in
theorem w_runnable : about1.curStatus? = some .runnable := by decide +kernel
set_option maxRecDepth 65536 in
theorem w_alone : about1.alone = true := by decide +kernel
set_option maxRecDepth 65536 in
theorem w_named : about1.methodNamed? x = some theMethod := by decide +kernel
set_option maxRecDepth 65536 in
theorem w_hears : about1.hears theMethod below0 = true := by decide +kernel
set_option maxRecDepth 65536 in
theorem w_ripe : about1.ripe theMethod args0 below0 = true := by decide +kernel
theorem w_running : about1.status = .running := rfl
set_option maxRecDepth 65536 in
theorem w_room : about1.hasRoom e0.platform room_1 = true :=
  launch0.hasRoom_least _ room_1 (by decide +kernel) (by decide +kernel) (by decide +kernel) (by decide +kernel) (by decide +kernel) (by decide +kernel)
theorem allAtoms_all (ts : List Jvm.Cond) (a : Array Jvm.Value) (st : Jvm.State) : (allAtoms ts).before a st = ts.all (fun c => c.before a st) := by
  induction ts with
  | nil => rfl
  | cons c t ih =>
    show (Jvm.Cond.and c (allAtoms t)).before a st = _
    rw [Jvm.Cond.before_and, ih, List.all_cons]
def words1 : List Jvm.Cond := Jvm.Cond.code x code maxLocals ret :: tables_1
/-- a 'code' word, met by the world's own term for the bytes: nothing is compared byte by byte -/
theorem code_word {y : MethodName} {bytes : ByteArray} {mx : Nat} {rt : Option FieldType} {a : Array Value} {s : State} {m : MethodId} {meth : Method} {c : Code} (h1 : s.methodNamed? y = some m) (h2 : s.vm.method? m = some meth) (h3 : meth.code = some c) (h4 : c.code = bytes)
    (h5 : (c.maxLocals == mx && c.exceptionTable.isEmpty && decide (c.maxStack ≤ mostOperands) && decide (meth.sig.returnType = rt) && !meth.locks && decide (parseMethodDescriptor y.desc = some meth.sig)) = true) : (Jvm.Cond.code y bytes mx rt).before a s = true := by
  simp only [Bool.and_eq_true, beq_iff_eq, Bool.not_eq_true', decide_eq_true_eq] at h5
  obtain ⟨⟨⟨⟨⟨g1, g2⟩, g3⟩, g4⟩, g5⟩, g6⟩ := h5
  simp [Cond.before, Cond.holds, Cond.value, h1, h2, h3, h4, g1, g2, g3, g4, g5, g6]
def isCode : Jvm.Cond → Bool
  | .code _ _ _ _ => true
  | _ => false
theorem all_split {L : List Jvm.Cond} {P : Jvm.Cond → Bool} (h1 : L.all (fun c => isCode c || P c) = true) (h2 : ∀ c ∈ L.filter isCode, P c = true) : L.all P = true := by
  refine List.all_eq_true.mpr fun c hc => ?_
  have h := List.all_eq_true.mp h1 c hc
  rcases Bool.eq_false_or_eq_true (isCode c) with hi | hi
  · exact h2 c (List.mem_filter.mpr ⟨hc, hi⟩)
  · simpa [hi] using h
set_option maxRecDepth 65536 in
theorem w_c0 : (Jvm.Cond.code x code maxLocals ret).before args0 about1 = true := code_word (m := ⟨1, 1⟩) (meth := k1m1) (c := k1c1) (by decide +kernel) rfl rfl rfl (by decide +kernel)
set_option maxRecDepth 65536 in
theorem w_c1 : (Jvm.Cond.code ({ cls := "com/example/trestle/trestle/action/ActionMessageWithBundlePinLaw", name := "str", desc := "(I)Ljava/lang/String;" } : Jvm.MethodName) method_4_code (5 : Nat) (Option.some (Jvm.ClassFile.FieldType.object "java/lang/String"))).before args0 about1 = true := code_word (m := ⟨1, 3⟩) (meth := k1m3) (c := k1c3) (by decide +kernel) rfl rfl rfl (by decide +kernel)
set_option maxRecDepth 65536 in
theorem w_c2 : (Jvm.Cond.code ({ cls := "java/lang/String", name := "<init>", desc := "([C)V" } : Jvm.MethodName) jdk_42_method_3_code (2 : Nat) (Option.none : Option Jvm.ClassFile.FieldType)).before args0 about1 = true := code_word (m := ⟨7, 1⟩) (meth := k7m1) (c := k7c1) (by decide +kernel) rfl rfl rfl (by decide +kernel)
set_option maxRecDepth 65536 in
theorem w_c3 : (Jvm.Cond.code ({ cls := "java/lang/String", name := "<init>", desc := "([CIILjava/lang/Void;)V" } : Jvm.MethodName) jdk_42_method_149_code (6 : Nat) (Option.none : Option Jvm.ClassFile.FieldType)).before args0 about1 = true := code_word (m := ⟨7, 3⟩) (meth := k7m3) (c := k7c3) (by decide +kernel) rfl rfl rfl (by decide +kernel)
set_option maxRecDepth 65536 in
theorem w_c4 : (Jvm.Cond.code ({ cls := "java/lang/Object", name := "<init>", desc := "()V" } : Jvm.MethodName) object_method_1_code (1 : Nat) (Option.none : Option Jvm.ClassFile.FieldType)).before args0 about1 = true := code_word (m := ⟨0, 0⟩) (meth := k0m0) (c := k0c0) (by decide +kernel) rfl rfl rfl (by decide +kernel)
set_option maxRecDepth 65536 in
theorem w_c5 : (Jvm.Cond.code ({ cls := "java/lang/StringUTF16", name := "compress", desc := "([CII)[B" } : Jvm.MethodName) jdk_52_method_16_code (6 : Nat) (Option.some (Jvm.ClassFile.FieldType.array Jvm.ClassFile.FieldType.byte))).before args0 about1 = true := code_word (m := ⟨8, 2⟩) (meth := k8m2) (c := k8c2) (by decide +kernel) rfl rfl rfl (by decide +kernel)
set_option maxRecDepth 65536 in
theorem w_c6 : (Jvm.Cond.code ({ cls := "java/lang/StringUTF16", name := "compress", desc := "([CI[BII)I" } : Jvm.MethodName) jdk_52_method_21_code (7 : Nat) (Option.some Jvm.ClassFile.FieldType.int)).before args0 about1 = true := code_word (m := ⟨8, 3⟩) (meth := k8m3) (c := k8c3) (by decide +kernel) rfl rfl rfl (by decide +kernel)
set_option maxRecDepth 65536 in
theorem w_c7 : (Jvm.Cond.code ({ cls := "java/lang/StringUTF16", name := "coderFromArrayLen", desc := "([BI)B" } : Jvm.MethodName) jdk_52_method_15_code (2 : Nat) (Option.some Jvm.ClassFile.FieldType.byte)).before args0 about1 = true := code_word (m := ⟨8, 1⟩) (meth := k8m1) (c := k8c1) (by decide +kernel) rfl rfl rfl (by decide +kernel)
set_option maxRecDepth 65536 in
theorem w_c8 : (Jvm.Cond.code ({ cls := "com/example/trestle/trestle/action/ActionMessage", name := "<init>", desc := "(Ljava/lang/String;Z)V" } : Jvm.MethodName) prog_4_method_7_code (3 : Nat) (Option.none : Option Jvm.ClassFile.FieldType)).before args0 about1 = true := code_word (m := ⟨9, 0⟩) (meth := k9m0) (c := k9c0) (by decide +kernel) rfl rfl rfl (by decide +kernel)
set_option maxRecDepth 65536 in
theorem w_c9 : (Jvm.Cond.code ({ cls := "com/example/trestle/trestle/action/ActionMessage", name := "<init>", desc := "(Ljava/lang/String;[Ljava/lang/Object;Z)V" } : Jvm.MethodName) prog_4_method_8_code (4 : Nat) (Option.none : Option Jvm.ClassFile.FieldType)).before args0 about1 = true := code_word (m := ⟨9, 1⟩) (meth := k9m1) (c := k9c1) (by decide +kernel) rfl rfl rfl (by decide +kernel)
set_option maxRecDepth 65536 in
theorem w_c10 : (Jvm.Cond.code ({ cls := "com/example/trestle/trestle/action/ActionMessage", name := "<init>", desc := "(Ljava/lang/String;[Ljava/lang/Object;ZLjava/lang/String;)V" } : Jvm.MethodName) prog_4_method_9_code (5 : Nat) (Option.none : Option Jvm.ClassFile.FieldType)).before args0 about1 = true := code_word (m := ⟨9, 2⟩) (meth := k9m2) (c := k9c2) (by decide +kernel) rfl rfl rfl (by decide +kernel)
set_option maxRecDepth 65536 in
theorem w_c11 : (Jvm.Cond.code ({ cls := "com/example/trestle/trestle/action/ActionMessage", name := "withBundle", desc := "(Ljava/lang/String;)Lcom/example/trestle/trestle/action/ActionMessage;" } : Jvm.MethodName) prog_4_method_10_code (2 : Nat) (Option.some (Jvm.ClassFile.FieldType.object "com/example/trestle/trestle/action/ActionMessage"))).before args0 about1 = true := code_word (m := ⟨9, 3⟩) (meth := k9m3) (c := k9c3) (by decide +kernel) rfl rfl rfl (by decide +kernel)
set_option maxRecDepth 65536 in
theorem w_c12 : (Jvm.Cond.code ({ cls := "com/example/trestle/trestle/action/ActionMessage", name := "getBundle", desc := "()Ljava/lang/String;" } : Jvm.MethodName) prog_4_method_14_code (1 : Nat) (Option.some (Jvm.ClassFile.FieldType.object "java/lang/String"))).before args0 about1 = true := code_word (m := ⟨9, 7⟩) (meth := k9m7) (c := k9c7) (by decide +kernel) rfl rfl rfl (by decide +kernel)
set_option maxRecDepth 65536 in
theorem w_c13 : (Jvm.Cond.code ({ cls := "com/example/trestle/trestle/action/ActionMessageWithBundlePinLaw", name := "same", desc := "(Ljava/lang/String;Ljava/lang/String;)Z" } : Jvm.MethodName) method_3_code (2 : Nat) (Option.some Jvm.ClassFile.FieldType.boolean)).before args0 about1 = true := code_word (m := ⟨1, 2⟩) (meth := k1m2) (c := k1c2) (by decide +kernel) rfl rfl rfl (by decide +kernel)
set_option maxRecDepth 65536 in
theorem w_c14 : (Jvm.Cond.code ({ cls := "java/lang/String", name := "equals", desc := "(Ljava/lang/Object;)Z" } : Jvm.MethodName) jdk_42_method_66_code (3 : Nat) (Option.some Jvm.ClassFile.FieldType.boolean)).before args0 about1 = true := code_word (m := ⟨7, 2⟩) (meth := k7m2) (c := k7c2) (by decide +kernel) rfl rfl rfl (by decide +kernel)
set_option maxRecDepth 65536 in
theorem w_c15 : (Jvm.Cond.code ({ cls := "com/example/trestle/trestle/action/ActionMessage", name := "getKey", desc := "()Ljava/lang/String;" } : Jvm.MethodName) prog_4_method_11_code (1 : Nat) (Option.some (Jvm.ClassFile.FieldType.object "java/lang/String"))).before args0 about1 = true := code_word (m := ⟨9, 4⟩) (meth := k9m4) (c := k9c4) (by decide +kernel) rfl rfl rfl (by decide +kernel)
set_option maxRecDepth 65536 in
theorem w_c16 : (Jvm.Cond.code ({ cls := "com/example/trestle/trestle/action/ActionMessage", name := "isResource", desc := "()Z" } : Jvm.MethodName) prog_4_method_13_code (1 : Nat) (Option.some Jvm.ClassFile.FieldType.boolean)).before args0 about1 = true := code_word (m := ⟨9, 6⟩) (meth := k9m6) (c := k9c6) (by decide +kernel) rfl rfl rfl (by decide +kernel)
set_option maxRecDepth 65536 in
theorem w_c17 : (Jvm.Cond.code ({ cls := "com/example/trestle/trestle/action/ActionMessage", name := "getValues", desc := "()[Ljava/lang/Object;" } : Jvm.MethodName) prog_4_method_12_code (1 : Nat) (Option.some (Jvm.ClassFile.FieldType.array (Jvm.ClassFile.FieldType.object "java/lang/Object")))).before args0 about1 = true := code_word (m := ⟨9, 5⟩) (meth := k9m5) (c := k9c5) (by decide +kernel) rfl rfl rfl (by decide +kernel)
def codes1 : List Jvm.Cond := [Jvm.Cond.code x code maxLocals ret, Jvm.Cond.code ({ cls := "com/example/trestle/trestle/action/ActionMessageWithBundlePinLaw", name := "str", desc := "(I)Ljava/lang/String;" } : Jvm.MethodName) method_4_code (5 : Nat) (Option.some (Jvm.ClassFile.FieldType.object "java/lang/String")), Jvm.Cond.code ({ cls := "java/lang/String", name := "<init>", desc := "([C)V" } : Jvm.MethodName) jdk_42_method_3_code (2 : Nat) (Option.none : Option Jvm.ClassFile.FieldType), Jvm.Cond.code ({ cls := "java/lang/String", name := "<init>", desc := "([CIILjava/lang/Void;)V" } : Jvm.MethodName) jdk_42_method_149_code (6 : Nat) (Option.none : Option Jvm.ClassFile.FieldType), Jvm.Cond.code ({ cls := "java/lang/Object", name := "<init>", desc := "()V" } : Jvm.MethodName) object_method_1_code (1 : Nat) (Option.none : Option Jvm.ClassFile.FieldType), Jvm.Cond.code ({ cls := "java/lang/StringUTF16", name := "compress", desc := "([CII)[B" } : Jvm.MethodName) jdk_52_method_16_code (6 : Nat) (Option.some (Jvm.ClassFile.FieldType.array Jvm.ClassFile.FieldType.byte)), Jvm.Cond.code ({ cls := "java/lang/StringUTF16", name := "compress", desc := "([CI[BII)I" } : Jvm.MethodName) jdk_52_method_21_code (7 : Nat) (Option.some Jvm.ClassFile.FieldType.int), Jvm.Cond.code ({ cls := "java/lang/StringUTF16", name := "coderFromArrayLen", desc := "([BI)B" } : Jvm.MethodName) jdk_52_method_15_code (2 : Nat) (Option.some Jvm.ClassFile.FieldType.byte), Jvm.Cond.code ({ cls := "com/example/trestle/trestle/action/ActionMessage", name := "<init>", desc := "(Ljava/lang/String;Z)V" } : Jvm.MethodName) prog_4_method_7_code (3 : Nat) (Option.none : Option Jvm.ClassFile.FieldType), Jvm.Cond.code ({ cls := "com/example/trestle/trestle/action/ActionMessage", name := "<init>", desc := "(Ljava/lang/String;[Ljava/lang/Object;Z)V" } : Jvm.MethodName) prog_4_method_8_code (4 : Nat) (Option.none : Option Jvm.ClassFile.FieldType), Jvm.Cond.code ({ cls := "com/example/trestle/trestle/action/ActionMessage", name := "<init>", desc := "(Ljava/lang/String;[Ljava/lang/Object;ZLjava/lang/String;)V" } : Jvm.MethodName) prog_4_method_9_code (5 : Nat) (Option.none : Option Jvm.ClassFile.FieldType), Jvm.Cond.code ({ cls := "com/example/trestle/trestle/action/ActionMessage", name := "withBundle", desc := "(Ljava/lang/String;)Lcom/example/trestle/trestle/action/ActionMessage;" } : Jvm.MethodName) prog_4_method_10_code (2 : Nat) (Option.some (Jvm.ClassFile.FieldType.object "com/example/trestle/trestle/action/ActionMessage")), Jvm.Cond.code ({ cls := "com/example/trestle/trestle/action/ActionMessage", name := "getBundle", desc := "()Ljava/lang/String;" } : Jvm.MethodName) prog_4_method_14_code (1 : Nat) (Option.some (Jvm.ClassFile.FieldType.object "java/lang/String")), Jvm.Cond.code ({ cls := "com/example/trestle/trestle/action/ActionMessageWithBundlePinLaw", name := "same", desc := "(Ljava/lang/String;Ljava/lang/String;)Z" } : Jvm.MethodName) method_3_code (2 : Nat) (Option.some Jvm.ClassFile.FieldType.boolean), Jvm.Cond.code ({ cls := "java/lang/String", name := "equals", desc := "(Ljava/lang/Object;)Z" } : Jvm.MethodName) jdk_42_method_66_code (3 : Nat) (Option.some Jvm.ClassFile.FieldType.boolean), Jvm.Cond.code ({ cls := "com/example/trestle/trestle/action/ActionMessage", name := "getKey", desc := "()Ljava/lang/String;" } : Jvm.MethodName) prog_4_method_11_code (1 : Nat) (Option.some (Jvm.ClassFile.FieldType.object "java/lang/String")), Jvm.Cond.code ({ cls := "com/example/trestle/trestle/action/ActionMessage", name := "isResource", desc := "()Z" } : Jvm.MethodName) prog_4_method_13_code (1 : Nat) (Option.some Jvm.ClassFile.FieldType.boolean), Jvm.Cond.code ({ cls := "com/example/trestle/trestle/action/ActionMessage", name := "getValues", desc := "()[Ljava/lang/Object;" } : Jvm.MethodName) prog_4_method_12_code (1 : Nat) (Option.some (Jvm.ClassFile.FieldType.array (Jvm.ClassFile.FieldType.object "java/lang/Object")))]
set_option maxRecDepth 65536 in
theorem codes_eq : words1.filter isCode = codes1 := rfl
theorem w_codes : ∀ c ∈ words1.filter isCode, c.before args0 about1 = true := by
  rw [codes_eq]
  intro c hc
  simp only [codes1, List.mem_cons, List.not_mem_nil, or_false] at hc
  rcases hc with rfl | rfl | rfl | rfl | rfl | rfl | rfl | rfl | rfl | rfl | rfl | rfl | rfl | rfl | rfl | rfl | rfl | rfl
  · exact w_c0
  · exact w_c1
  · exact w_c2
  · exact w_c3
  · exact w_c4
  · exact w_c5
  · exact w_c6
  · exact w_c7
  · exact w_c8
  · exact w_c9
  · exact w_c10
  · exact w_c11
  · exact w_c12
  · exact w_c13
  · exact w_c14
  · exact w_c15
  · exact w_c16
  · exact w_c17
set_option maxRecDepth 65536 in
theorem w_t1 : (words1.take 24).all (fun c => isCode c || c.before args0 about1) = true := by decide +kernel
set_option maxRecDepth 65536 in
theorem w_t2 : ((words1.drop 24).take 24).all (fun c => isCode c || c.before args0 about1) = true := by decide +kernel
set_option maxRecDepth 65536 in
theorem w_t3 : (((words1.drop 24).drop 24).take 24).all (fun c => isCode c || c.before args0 about1) = true := by decide +kernel
set_option maxRecDepth 65536 in
theorem w_t4 : ((((words1.drop 24).drop 24).drop 24).take 24).all (fun c => isCode c || c.before args0 about1) = true := by decide +kernel
set_option maxRecDepth 65536 in
theorem w_t5 : ((((words1.drop 24).drop 24).drop 24).drop 24).all (fun c => isCode c || c.before args0 about1) = true := by decide +kernel
theorem w_tables : (allAtoms (Jvm.Cond.code x code maxLocals ret :: tables_1)).before args0 about1 = true := by
  rw [allAtoms_all]
  show words1.all (fun c => c.before args0 about1) = true
  refine all_split ?_ w_codes
  rw [← List.take_append_drop 24 words1, List.all_append, w_t1, ← List.take_append_drop 24 (words1.drop 24), List.all_append, w_t2, ← List.take_append_drop 24 ((words1.drop 24).drop 24), List.all_append, w_t3, ← List.take_append_drop 24 (((words1.drop 24).drop 24).drop 24), List.all_append, w_t4, w_t5]
  rfl
set_option maxRecDepth 65536 in
theorem w_rest : rest_1_c.before args0 about1 = true := by decide +kernel
set_option maxRecDepth 65536 in
theorem w_case : (Jvm.Cond.and given_1 narrow_1).before args0 about1 = true := by decide +kernel
set_option maxRecDepth 65536 in
theorem w_consts : constsHeld consts_1 about1 := Jvm.Lit.constsHeldB_iff.mp (by decide +kernel)
theorem w_applies : (headSpec (Jvm.Cond.code x code maxLocals ret :: tables_1) room_1).applies x e0.platform about1 = true :=
  (Spec.applies_iff w_frames).mpr ⟨w_running, w_runnable, w_alone, w_named, w_hears, w_ripe, w_room, w_tables⟩
theorem atStart : AtStart classFile x code maxLocals ret World_1 tables_1 room_1 Calls_1 rest_1 Pre_1 launch0 p0 e0 about1 theMethod args0 below0 :=
  ⟨lists_1, trivial, launch0.admits_env _ _ _, launch0.least_env, fairChoices_fair.cas, fairChoices_fair.clock, w_frames, w_args, w_heap, w_applies, ⟨w_consts, trivial⟩, w_rest, w_case⟩
end start1
theorem witness_1 : WitnessClaimed_1 := ⟨start1.p0, start1.e0, start1.about1, start1.theMethod, start1.args0, start1.below0, start1.atStart⟩
end Jvm.Pilot.@@N@@
