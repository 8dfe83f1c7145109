import JvmDerived
import JvmDerived.Pilot.@@N@@Statement
import JvmDerived.Pilot.@@N@@Code
set_option linter.unusedVariables false
set_option linter.unusedSimpArgs false
namespace Jvm.OwK
open Jvm Sem ClassFile Op Lib Jvm.Free Jvm.Stand Jvm.LawKit Jvm.RoadKit Bundle
/-- one decoded row of a body, with the place of the next one -/
def Dec (c : ByteArray) (pc : Nat) (i : Instr) (len n : Nat) : Prop := decode c pc = .ok (i, len) ∧ pc + len = n
/-- the run from here ends as F says -/
def Go (p : Program) (e : Env) (below : List Frame) (F : State → Prop) (T : State) (g : JFrame) : Prop := ∃ t, Steps p.tables e below (T.setTop g) t ∧ F t
/-- where a plain step can be taken -/
def Cx (p : Program) (below : List Frame) (m : MethodId) (c : Code) (cd : ByteArray) (T : State) : Prop := At T m c below ∧ p.tables.exec = Jvm.exec ∧ c.code = cd
def ush (x y : Int32) : Int32 := (x.toUInt32 >>> (y &&& 31).toUInt32).toInt32
def ushL (x : Int64) (y : Int32) : Int64 := (x.toUInt64 >>> (y &&& 0x3f).toInt64.toUInt64).toInt64
def lcm (x y : Int64) : Int32 := if x > y then 1 else if x = y then 0 else -1
section Plain
variable {p : Program} {e : Env} {below : List Frame} {F : State → Prop} {T : State} {m : MethodId} {c : Code} {cd : ByteArray} {pc n : Nat} {L : Array Slot} {r : List Value}
theorem Go.st {T' : State} {g g' : JFrame} (h : ∀ t, Steps p.tables e below (T'.setTop g') t → Steps p.tables e below (T.setTop g) t) (k : Go p e below F T' g') : Go p e below F T g := by
  obtain ⟨t, st, f⟩ := k; exact ⟨t, h t st, f⟩
theorem Go.run {T' : State} {g g' : JFrame} (h : Steps p.tables e below (T.setTop g) (T'.setTop g')) (k : Go p e below F T' g') : Go p e below F T g := by
  obtain ⟨t, st, f⟩ := k; exact ⟨t, h.trans st, f⟩
theorem Go.top {x y : Int32} (h : x = y) (k : Go p e below F T (mkF m pc L (.int y :: r))) : Go p e below F T (mkF m pc L (.int x :: r)) := h ▸ k
theorem Go.topL {x y : Int64} (h : x = y) (k : Go p e below F T (mkF m pc L (.long y :: r))) : Go p e below F T (mkF m pc L (.long x :: r)) := h ▸ k
theorem Go.aload_n (C : Cx p below m c cd T) {k : Fin 4} {v : Value} (d : Dec cd pc (.aload_n k) 1 n) (hl : L[k.val]? = some (.val v)) (hv : v.isRef = true)
    (k : Go p e below F T (mkF m n L (v :: r))) : Go p e below F T (mkF m pc L r) := by
  obtain ⟨t, st, f⟩ := k; obtain ⟨d, rfl⟩ := d
  exact ⟨t, XS.aloadN C.1 C.2.1 rfl (hb C.2.2 d) hl hv st, f⟩
theorem Go.aload (C : Cx p below m c cd T) {k : Nat} {v : Value} (d : Dec cd pc (.aload k) 2 n) (hl : L[k]? = some (.val v)) (hv : v.isRef = true)
    (k : Go p e below F T (mkF m n L (v :: r))) : Go p e below F T (mkF m pc L r) := by
  obtain ⟨t, st, f⟩ := k; obtain ⟨d, rfl⟩ := d
  exact ⟨t, XS.aload C.1 C.2.1 rfl (hb C.2.2 d) hl hv st, f⟩
theorem Go.iload_n (C : Cx p below m c cd T) {k : Fin 4} {v : Int32} (d : Dec cd pc (.iload_n k) 1 n) (hl : L[k.val]? = some (.val (.int v)))
    (k : Go p e below F T (mkF m n L (.int v :: r))) : Go p e below F T (mkF m pc L r) := by
  obtain ⟨t, st, f⟩ := k; obtain ⟨d, rfl⟩ := d
  exact ⟨t, XS.iloadN C.1 C.2.1 rfl (hb C.2.2 d) hl st, f⟩
theorem Go.iload (C : Cx p below m c cd T) {k : Nat} {v : Int32} (d : Dec cd pc (.iload k) 2 n) (hl : L[k]? = some (.val (.int v)))
    (k : Go p e below F T (mkF m n L (.int v :: r))) : Go p e below F T (mkF m pc L r) := by
  obtain ⟨t, st, f⟩ := k; obtain ⟨d, rfl⟩ := d
  exact ⟨t, XS.iload C.1 C.2.1 rfl (hb C.2.2 d) hl st, f⟩
theorem Go.lload_n (C : Cx p below m c cd T) {k : Fin 4} {v : Int64} (d : Dec cd pc (.lload_n k) 1 n) (hl : L[k.val]? = some (.val (.long v)))
    (k : Go p e below F T (mkF m n L (.long v :: r))) : Go p e below F T (mkF m pc L r) := by
  obtain ⟨t, st, f⟩ := k; obtain ⟨d, rfl⟩ := d
  exact ⟨t, XS.lloadN C.1 C.2.1 rfl (hb C.2.2 d) hl st, f⟩
theorem Go.lload (C : Cx p below m c cd T) {k : Nat} {v : Int64} (d : Dec cd pc (.lload k) 2 n) (hl : L[k]? = some (.val (.long v)))
    (k : Go p e below F T (mkF m n L (.long v :: r))) : Go p e below F T (mkF m pc L r) := by
  obtain ⟨t, st, f⟩ := k; obtain ⟨d, rfl⟩ := d
  exact ⟨t, XS.lload C.1 C.2.1 rfl (hb C.2.2 d) hl st, f⟩
theorem Go.iconst (C : Cx p below m c cd T) {i : Int} {z : Int32} (d : Dec cd pc (.iconst i) 1 n) (hz : Int32.ofInt i = z)
    (k : Go p e below F T (mkF m n L (.int z :: r))) : Go p e below F T (mkF m pc L r) := by
  obtain ⟨t, st, f⟩ := k; obtain ⟨d, rfl⟩ := d
  subst hz; exact ⟨t, XS.iconst C.1 C.2.1 rfl (hb C.2.2 d)  st, f⟩
theorem Go.bipush (C : Cx p below m c cd T) {i : Int} {z : Int32} (d : Dec cd pc (.bipush i) 2 n) (hz : (Int8.ofInt i).toInt32 = z)
    (k : Go p e below F T (mkF m n L (.int z :: r))) : Go p e below F T (mkF m pc L r) := by
  obtain ⟨t, st, f⟩ := k; obtain ⟨d, rfl⟩ := d
  subst hz; exact ⟨t, XS.bipush C.1 C.2.1 rfl (hb C.2.2 d)  st, f⟩
theorem Go.sipush (C : Cx p below m c cd T) {i : Int} {z : Int32} (d : Dec cd pc (.sipush i) 3 n) (hz : (Int16.ofInt i).toInt32 = z)
    (k : Go p e below F T (mkF m n L (.int z :: r))) : Go p e below F T (mkF m pc L r) := by
  obtain ⟨t, st, f⟩ := k; obtain ⟨d, rfl⟩ := d
  subst hz; exact ⟨t, XS.sipush C.1 C.2.1 rfl (hb C.2.2 d)  st, f⟩
theorem Go.aconst_null (C : Cx p below m c cd T)  (d : Dec cd pc (.aconst_null) 1 n)
    (k : Go p e below F T (mkF m n L (.null :: r))) : Go p e below F T (mkF m pc L r) := by
  obtain ⟨t, st, f⟩ := k; obtain ⟨d, rfl⟩ := d
  exact ⟨t, XS.aconstNull C.1 C.2.1 rfl (hb C.2.2 d)  st, f⟩
theorem Go.iadd (C : Cx p below m c cd T) {x y : Int32} (d : Dec cd pc (.iadd) 1 n)
    (k : Go p e below F T (mkF m n L (.int (x + y) :: r))) : Go p e below F T (mkF m pc L (.int y :: .int x :: r)) := by
  obtain ⟨t, st, f⟩ := k; obtain ⟨d, rfl⟩ := d
  exact ⟨t, XS.iadd C.1 C.2.1 rfl (hb C.2.2 d) rfl st, f⟩
theorem Go.isub (C : Cx p below m c cd T) {x y : Int32} (d : Dec cd pc (.isub) 1 n)
    (k : Go p e below F T (mkF m n L (.int (x - y) :: r))) : Go p e below F T (mkF m pc L (.int y :: .int x :: r)) := by
  obtain ⟨t, st, f⟩ := k; obtain ⟨d, rfl⟩ := d
  exact ⟨t, XS.isub C.1 C.2.1 rfl (hb C.2.2 d) rfl st, f⟩
theorem Go.iand (C : Cx p below m c cd T) {x y : Int32} (d : Dec cd pc (.iand) 1 n)
    (k : Go p e below F T (mkF m n L (.int (x &&& y) :: r))) : Go p e below F T (mkF m pc L (.int y :: .int x :: r)) := by
  obtain ⟨t, st, f⟩ := k; obtain ⟨d, rfl⟩ := d
  exact ⟨t, XS.iand C.1 C.2.1 rfl (hb C.2.2 d) rfl st, f⟩
theorem Go.imul (C : Cx p below m c cd T) {x y : Int32} (d : Dec cd pc (.imul) 1 n)
    (k : Go p e below F T (mkF m n L (.int (x * y) :: r))) : Go p e below F T (mkF m pc L (.int y :: .int x :: r)) := by
  obtain ⟨t, st, f⟩ := k; obtain ⟨d, rfl⟩ := d
  exact ⟨t, XS.imul C.1 C.2.1 rfl (hb C.2.2 d) rfl st, f⟩
theorem Go.ior (C : Cx p below m c cd T) {x y : Int32} (d : Dec cd pc (.ior) 1 n)
    (k : Go p e below F T (mkF m n L (.int (x ||| y) :: r))) : Go p e below F T (mkF m pc L (.int y :: .int x :: r)) := by
  obtain ⟨t, st, f⟩ := k; obtain ⟨d, rfl⟩ := d
  exact ⟨t, XS.ior C.1 C.2.1 rfl (hb C.2.2 d) rfl st, f⟩
theorem Go.ixor (C : Cx p below m c cd T) {x y : Int32} (d : Dec cd pc (.ixor) 1 n)
    (k : Go p e below F T (mkF m n L (.int (x ^^^ y) :: r))) : Go p e below F T (mkF m pc L (.int y :: .int x :: r)) := by
  obtain ⟨t, st, f⟩ := k; obtain ⟨d, rfl⟩ := d
  exact ⟨t, XS.ixor C.1 C.2.1 rfl (hb C.2.2 d) rfl st, f⟩
theorem Go.iushr (C : Cx p below m c cd T) {x y : Int32} (d : Dec cd pc (.iushr) 1 n)
    (k : Go p e below F T (mkF m n L (.int (ush x y) :: r))) : Go p e below F T (mkF m pc L (.int y :: .int x :: r)) := by
  obtain ⟨t, st, f⟩ := k; obtain ⟨d, rfl⟩ := d
  exact ⟨t, XS.iushr C.1 C.2.1 rfl (hb C.2.2 d) rfl st, f⟩
theorem Go.idiv (C : Cx p below m c cd T) {x y : Int32} (d : Dec cd pc (.idiv) 1 n) (hy : y ≠ 0)
    (k : Go p e below F T (mkF m n L (.int (x / y) :: r))) : Go p e below F T (mkF m pc L (.int y :: .int x :: r)) := by
  obtain ⟨t, st, f⟩ := k; obtain ⟨d, rfl⟩ := d
  exact ⟨t, XS.idiv C.1 C.2.1 rfl (hb C.2.2 d) rfl hy st, f⟩
theorem Go.ineg (C : Cx p below m c cd T) {x : Int32} (d : Dec cd pc (.ineg) 1 n)
    (k : Go p e below F T (mkF m n L (.int (-x) :: r))) : Go p e below F T (mkF m pc L (.int x :: r)) := by
  obtain ⟨t, st, f⟩ := k; obtain ⟨d, rfl⟩ := d
  exact ⟨t, XS.ineg C.1 C.2.1 rfl (hb C.2.2 d) rfl st, f⟩
theorem Go.ladd (C : Cx p below m c cd T) {x y : Int64} (d : Dec cd pc (.ladd) 1 n)
    (k : Go p e below F T (mkF m n L (.long (x + y) :: r))) : Go p e below F T (mkF m pc L (.long y :: .long x :: r)) := by
  obtain ⟨t, st, f⟩ := k; obtain ⟨d, rfl⟩ := d
  exact ⟨t, XS.ladd C.1 C.2.1 rfl (hb C.2.2 d) rfl st, f⟩
theorem Go.lsub (C : Cx p below m c cd T) {x y : Int64} (d : Dec cd pc (.lsub) 1 n)
    (k : Go p e below F T (mkF m n L (.long (x - y) :: r))) : Go p e below F T (mkF m pc L (.long y :: .long x :: r)) := by
  obtain ⟨t, st, f⟩ := k; obtain ⟨d, rfl⟩ := d
  exact ⟨t, XS.lsub C.1 C.2.1 rfl (hb C.2.2 d) rfl st, f⟩
theorem Go.lmul (C : Cx p below m c cd T) {x y : Int64} (d : Dec cd pc (.lmul) 1 n)
    (k : Go p e below F T (mkF m n L (.long (x * y) :: r))) : Go p e below F T (mkF m pc L (.long y :: .long x :: r)) := by
  obtain ⟨t, st, f⟩ := k; obtain ⟨d, rfl⟩ := d
  exact ⟨t, XS.lmul C.1 C.2.1 rfl (hb C.2.2 d) rfl st, f⟩
theorem Go.land (C : Cx p below m c cd T) {x y : Int64} (d : Dec cd pc (.land) 1 n)
    (k : Go p e below F T (mkF m n L (.long (x &&& y) :: r))) : Go p e below F T (mkF m pc L (.long y :: .long x :: r)) := by
  obtain ⟨t, st, f⟩ := k; obtain ⟨d, rfl⟩ := d
  exact ⟨t, XS.land C.1 C.2.1 rfl (hb C.2.2 d) rfl st, f⟩
theorem Go.lor (C : Cx p below m c cd T) {x y : Int64} (d : Dec cd pc (.lor) 1 n)
    (k : Go p e below F T (mkF m n L (.long (x ||| y) :: r))) : Go p e below F T (mkF m pc L (.long y :: .long x :: r)) := by
  obtain ⟨t, st, f⟩ := k; obtain ⟨d, rfl⟩ := d
  exact ⟨t, XS.lor C.1 C.2.1 rfl (hb C.2.2 d) rfl st, f⟩
theorem Go.lushr (C : Cx p below m c cd T) {x : Int64} {y : Int32} (d : Dec cd pc (.lushr) 1 n)
    (k : Go p e below F T (mkF m n L (.long (ushL x y) :: r))) : Go p e below F T (mkF m pc L (.int y :: .long x :: r)) := by
  obtain ⟨t, st, f⟩ := k; obtain ⟨d, rfl⟩ := d
  exact ⟨t, XS.lushr C.1 C.2.1 rfl (hb C.2.2 d) rfl st, f⟩
theorem Go.i2l (C : Cx p below m c cd T) {x : Int32} (d : Dec cd pc (.i2l) 1 n)
    (k : Go p e below F T (mkF m n L (.long x.toInt64 :: r))) : Go p e below F T (mkF m pc L (.int x :: r)) := by
  obtain ⟨t, st, f⟩ := k; obtain ⟨d, rfl⟩ := d
  exact ⟨t, XS.i2l C.1 C.2.1 rfl (hb C.2.2 d) rfl st, f⟩
theorem Go.l2i (C : Cx p below m c cd T) {x : Int64} (d : Dec cd pc (.l2i) 1 n)
    (k : Go p e below F T (mkF m n L (.int x.toInt32 :: r))) : Go p e below F T (mkF m pc L (.long x :: r)) := by
  obtain ⟨t, st, f⟩ := k; obtain ⟨d, rfl⟩ := d
  exact ⟨t, XS.l2i C.1 C.2.1 rfl (hb C.2.2 d) rfl st, f⟩
theorem Go.i2b (C : Cx p below m c cd T) {x : Int32} (d : Dec cd pc (.i2b) 1 n)
    (k : Go p e below F T (mkF m n L (.int x.toInt8.toInt32 :: r))) : Go p e below F T (mkF m pc L (.int x :: r)) := by
  obtain ⟨t, st, f⟩ := k; obtain ⟨d, rfl⟩ := d
  exact ⟨t, XS.i2b C.1 C.2.1 rfl (hb C.2.2 d) rfl st, f⟩
theorem Go.i2c (C : Cx p below m c cd T) {x : Int32} (d : Dec cd pc (.i2c) 1 n)
    (k : Go p e below F T (mkF m n L (.int x.toUInt32.toUInt16.toUInt32.toInt32 :: r))) : Go p e below F T (mkF m pc L (.int x :: r)) := by
  obtain ⟨t, st, f⟩ := k; obtain ⟨d, rfl⟩ := d
  exact ⟨t, XS.i2c C.1 C.2.1 rfl (hb C.2.2 d) rfl st, f⟩
theorem Go.lcmp (C : Cx p below m c cd T) {x y : Int64} (d : Dec cd pc (.lcmp) 1 n)
    (k : Go p e below F T (mkF m n L (.int (lcm x y) :: r))) : Go p e below F T (mkF m pc L (.long y :: .long x :: r)) := by
  obtain ⟨t, st, f⟩ := k; obtain ⟨d, rfl⟩ := d
  exact ⟨t, XS.lcmp C.1 C.2.1 rfl (hb C.2.2 d) rfl st, f⟩
theorem Go.dup (C : Cx p below m c cd T) {x : Value} (d : Dec cd pc (.dup) 1 n) (hc : x.category = 1)
    (k : Go p e below F T (mkF m n L (x :: x :: r))) : Go p e below F T (mkF m pc L (x :: r)) := by
  obtain ⟨t, st, f⟩ := k; obtain ⟨d, rfl⟩ := d
  exact ⟨t, XS.dup C.1 C.2.1 rfl (hb C.2.2 d) rfl hc st, f⟩
theorem Go.pop (C : Cx p below m c cd T) {x : Value} (d : Dec cd pc (.pop) 1 n) (hc : x.category = 1)
    (k : Go p e below F T (mkF m n L r)) : Go p e below F T (mkF m pc L (x :: r)) := by
  obtain ⟨t, st, f⟩ := k; obtain ⟨d, rfl⟩ := d
  exact ⟨t, XS.pop C.1 C.2.1 rfl (hb C.2.2 d) rfl hc st, f⟩
theorem Go.istore_n (C : Cx p below m c cd T) {k : Fin 4} {x : Int32} {L' : Array Slot} (d : Dec cd pc (.istore_n k) 1 n) (hl : storeLocals L k.val (.int x) = some L')
    (k : Go p e below F T (mkF m n L' r)) : Go p e below F T (mkF m pc L (.int x :: r)) := by
  obtain ⟨t, st, f⟩ := k; obtain ⟨d, rfl⟩ := d
  exact ⟨t, XS.istoreN C.1 C.2.1 rfl (hb C.2.2 d) rfl hl st, f⟩
theorem Go.istore (C : Cx p below m c cd T) {k : Nat} {x : Int32} {L' : Array Slot} (d : Dec cd pc (.istore k) 2 n) (hl : storeLocals L k (.int x) = some L')
    (k : Go p e below F T (mkF m n L' r)) : Go p e below F T (mkF m pc L (.int x :: r)) := by
  obtain ⟨t, st, f⟩ := k; obtain ⟨d, rfl⟩ := d
  exact ⟨t, XS.istore C.1 C.2.1 rfl (hb C.2.2 d) rfl hl st, f⟩
theorem Go.lstore_n (C : Cx p below m c cd T) {k : Fin 4} {x : Int64} {L' : Array Slot} (d : Dec cd pc (.lstore_n k) 1 n) (hl : storeLocals L k.val (.long x) = some L')
    (k : Go p e below F T (mkF m n L' r)) : Go p e below F T (mkF m pc L (.long x :: r)) := by
  obtain ⟨t, st, f⟩ := k; obtain ⟨d, rfl⟩ := d
  exact ⟨t, XS.lstoreN C.1 C.2.1 rfl (hb C.2.2 d) rfl hl st, f⟩
theorem Go.lstore (C : Cx p below m c cd T) {k : Nat} {x : Int64} {L' : Array Slot} (d : Dec cd pc (.lstore k) 2 n) (hl : storeLocals L k (.long x) = some L')
    (k : Go p e below F T (mkF m n L' r)) : Go p e below F T (mkF m pc L (.long x :: r)) := by
  obtain ⟨t, st, f⟩ := k; obtain ⟨d, rfl⟩ := d
  exact ⟨t, XS.lstore C.1 C.2.1 rfl (hb C.2.2 d) rfl hl st, f⟩
theorem Go.astore_n (C : Cx p below m c cd T) {k : Fin 4} {x : Value} {L' : Array Slot} (d : Dec cd pc (.astore_n k) 1 n) (hv : x.isRef = true) (hl : storeLocals L k.val x = some L')
    (k : Go p e below F T (mkF m n L' r)) : Go p e below F T (mkF m pc L (x :: r)) := by
  obtain ⟨t, st, f⟩ := k; obtain ⟨d, rfl⟩ := d
  exact ⟨t, XS.astoreN C.1 C.2.1 rfl (hb C.2.2 d) rfl hv hl st, f⟩
theorem Go.astore (C : Cx p below m c cd T) {k : Nat} {x : Value} {L' : Array Slot} (d : Dec cd pc (.astore k) 2 n) (hv : x.isRef = true) (hl : storeLocals L k x = some L')
    (k : Go p e below F T (mkF m n L' r)) : Go p e below F T (mkF m pc L (x :: r)) := by
  obtain ⟨t, st, f⟩ := k; obtain ⟨d, rfl⟩ := d
  exact ⟨t, XS.astore C.1 C.2.1 rfl (hb C.2.2 d) rfl hv hl st, f⟩
theorem Go.iinc (C : Cx p below m c cd T) {k : Nat} {i : Int} {x z : Int32} {L' : Array Slot} (d : Dec cd pc (.iinc k i) 3 n) (hl : L[k]? = some (.val (.int x))) (hz : x + Int32.ofInt i = z) (hl' : storeLocals L k (.int z) = some L')
    (k : Go p e below F T (mkF m n L' r)) : Go p e below F T (mkF m pc L r) := by
  obtain ⟨t, st, f⟩ := k; obtain ⟨d, rfl⟩ := d
  exact ⟨t, XS.iinc C.1 C.2.1 rfl (hb C.2.2 d) hl (hz ▸ hl') st, f⟩
theorem Go.irem (C : Cx p below m c cd T) {x y : Int32} (d : Dec cd pc (.irem) 1 n) (hy : y ≠ 0)
    (k : Go p e below F T (mkF m n L (.int (x % y) :: r))) : Go p e below F T (mkF m pc L (.int y :: .int x :: r)) := by
  obtain ⟨t, st, f⟩ := k; obtain ⟨d, rfl⟩ := d
  exact ⟨t, XS.irem C.1 C.2.1 rfl (hb C.2.2 d) rfl hy (by rw [irem_eq_mod]; exact st), f⟩
theorem Go.lconst (C : Cx p below m c cd T) {k0 : Fin 2} {z : Int64} (d : Dec cd pc (.lconst k0) 1 n) (hz : Int64.ofNat k0 = z)
    (k : Go p e below F T (mkF m n L (.long z :: r))) : Go p e below F T (mkF m pc L r) := by
  obtain ⟨t, st, f⟩ := k; obtain ⟨d, rfl⟩ := d
  subst hz; exact ⟨t, XS.lconst C.1 C.2.1 rfl (hb C.2.2 d) st, f⟩
theorem Go.goto (C : Cx p below m c cd T) {o : Int} {q : Nat} (d : Dec cd pc (.goto o) 3 n) (ho : 0 ≤ (pc : Int) + o) (hp : ((pc : Int) + o).toNat = q)
    (k : Go p e below F T (mkF m q L r)) : Go p e below F T (mkF m pc L r) := by
  obtain ⟨t, st, f⟩ := k; obtain ⟨d, rfl⟩ := d
  exact ⟨t, XS.goto C.1 C.2.1 rfl (pc0 := pc) rfl (hb C.2.2 d) ho hp st, f⟩
theorem Go.ifb (C : Cx p below m c cd T) {cc : ClassFile.Cond} {x : Int32} {o : Int} {q : Nat} (d : Dec cd pc (.ifCond cc o) 3 n) (ho : 0 ≤ (pc : Int) + o) (hp : ((pc : Int) + o).toNat = q)
    (k1 : ifCond.holds cc x = true → Go p e below F T (mkF m q L r)) (k2 : ifCond.holds cc x = false → Go p e below F T (mkF m n L r)) : Go p e below F T (mkF m pc L (.int x :: r)) := by
  obtain ⟨d, rfl⟩ := d
  cases hc : ifCond.holds cc x
  · obtain ⟨t, st, f⟩ := k2 hc; exact ⟨t, XS.ifNo C.1 C.2.1 rfl (hb C.2.2 d) rfl hc st, f⟩
  · obtain ⟨t, st, f⟩ := k1 hc; exact ⟨t, XS.ifYes C.1 C.2.1 rfl (pc0 := pc) rfl (hb C.2.2 d) rfl hc ho hp st, f⟩
theorem Go.icb (C : Cx p below m c cd T) {cc : ClassFile.Cond} {x y : Int32} {o : Int} {q : Nat} (d : Dec cd pc (.if_icmp cc o) 3 n) (ho : 0 ≤ (pc : Int) + o) (hp : ((pc : Int) + o).toNat = q)
    (k1 : if_icmp.holds cc x y = true → Go p e below F T (mkF m q L r)) (k2 : if_icmp.holds cc x y = false → Go p e below F T (mkF m n L r)) : Go p e below F T (mkF m pc L (.int y :: .int x :: r)) := by
  obtain ⟨d, rfl⟩ := d
  cases hc : if_icmp.holds cc x y
  · obtain ⟨t, st, f⟩ := k2 hc; exact ⟨t, XS.icmpNo C.1 C.2.1 rfl (hb C.2.2 d) rfl hc st, f⟩
  · obtain ⟨t, st, f⟩ := k1 hc; exact ⟨t, XS.icmpYes C.1 C.2.1 rfl (pc0 := pc) rfl (hb C.2.2 d) rfl hc ho hp st, f⟩
theorem Go.ifeq (C : Cx p below m c cd T) {x : Int32} {o : Int} {q : Nat} (d : Dec cd pc (.ifCond .eq o) 3 n) (ho : 0 ≤ (pc : Int) + o) (hp : ((pc : Int) + o).toNat = q)
    (k1 : x = 0 → Go p e below F T (mkF m q L r)) (k2 : ¬ x = 0 → Go p e below F T (mkF m n L r)) : Go p e below F T (mkF m pc L (.int x :: r)) :=
  Go.ifb C d ho hp (fun h => k1 (by simpa [ifCond.holds] using h)) (fun h => k2 (by simpa [ifCond.holds] using h))
theorem Go.ifne (C : Cx p below m c cd T) {x : Int32} {o : Int} {q : Nat} (d : Dec cd pc (.ifCond .ne o) 3 n) (ho : 0 ≤ (pc : Int) + o) (hp : ((pc : Int) + o).toNat = q)
    (k1 : ¬ x = 0 → Go p e below F T (mkF m q L r)) (k2 : x = 0 → Go p e below F T (mkF m n L r)) : Go p e below F T (mkF m pc L (.int x :: r)) :=
  Go.ifb C d ho hp (fun h => k1 (by simpa [ifCond.holds] using h)) (fun h => k2 (by simpa [ifCond.holds] using h))
theorem Go.iflt (C : Cx p below m c cd T) {x : Int32} {o : Int} {q : Nat} (d : Dec cd pc (.ifCond .lt o) 3 n) (ho : 0 ≤ (pc : Int) + o) (hp : ((pc : Int) + o).toNat = q)
    (k1 : x < 0 → Go p e below F T (mkF m q L r)) (k2 : ¬ x < 0 → Go p e below F T (mkF m n L r)) : Go p e below F T (mkF m pc L (.int x :: r)) :=
  Go.ifb C d ho hp (fun h => k1 (by simpa [ifCond.holds] using h)) (fun h => k2 (by simpa [ifCond.holds] using h))
theorem Go.ifge (C : Cx p below m c cd T) {x : Int32} {o : Int} {q : Nat} (d : Dec cd pc (.ifCond .ge o) 3 n) (ho : 0 ≤ (pc : Int) + o) (hp : ((pc : Int) + o).toNat = q)
    (k1 : ¬ x < 0 → Go p e below F T (mkF m q L r)) (k2 : x < 0 → Go p e below F T (mkF m n L r)) : Go p e below F T (mkF m pc L (.int x :: r)) :=
  Go.ifb C d ho hp (fun h => k1 (by simpa [ifCond.holds] using h)) (fun h => k2 (by simpa [ifCond.holds] using h))
theorem Go.ifgt (C : Cx p below m c cd T) {x : Int32} {o : Int} {q : Nat} (d : Dec cd pc (.ifCond .gt o) 3 n) (ho : 0 ≤ (pc : Int) + o) (hp : ((pc : Int) + o).toNat = q)
    (k1 : 0 < x → Go p e below F T (mkF m q L r)) (k2 : ¬ 0 < x → Go p e below F T (mkF m n L r)) : Go p e below F T (mkF m pc L (.int x :: r)) :=
  Go.ifb C d ho hp (fun h => k1 (by simpa [ifCond.holds] using h)) (fun h => k2 (by simpa [ifCond.holds] using h))
theorem Go.ifle (C : Cx p below m c cd T) {x : Int32} {o : Int} {q : Nat} (d : Dec cd pc (.ifCond .le o) 3 n) (ho : 0 ≤ (pc : Int) + o) (hp : ((pc : Int) + o).toNat = q)
    (k1 : ¬ 0 < x → Go p e below F T (mkF m q L r)) (k2 : 0 < x → Go p e below F T (mkF m n L r)) : Go p e below F T (mkF m pc L (.int x :: r)) :=
  Go.ifb C d ho hp (fun h => k1 (by simpa [ifCond.holds] using h)) (fun h => k2 (by simpa [ifCond.holds] using h))
theorem Go.iceq (C : Cx p below m c cd T) {x y : Int32} {o : Int} {q : Nat} (d : Dec cd pc (.if_icmp .eq o) 3 n) (ho : 0 ≤ (pc : Int) + o) (hp : ((pc : Int) + o).toNat = q)
    (k1 : x = y → Go p e below F T (mkF m q L r)) (k2 : ¬ x = y → Go p e below F T (mkF m n L r)) : Go p e below F T (mkF m pc L (.int y :: .int x :: r)) :=
  Go.icb C d ho hp (fun h => k1 (by simpa [if_icmp.holds] using h)) (fun h => k2 (by simpa [if_icmp.holds] using h))
theorem Go.icne (C : Cx p below m c cd T) {x y : Int32} {o : Int} {q : Nat} (d : Dec cd pc (.if_icmp .ne o) 3 n) (ho : 0 ≤ (pc : Int) + o) (hp : ((pc : Int) + o).toNat = q)
    (k1 : ¬ x = y → Go p e below F T (mkF m q L r)) (k2 : x = y → Go p e below F T (mkF m n L r)) : Go p e below F T (mkF m pc L (.int y :: .int x :: r)) :=
  Go.icb C d ho hp (fun h => k1 (by simpa [if_icmp.holds] using h)) (fun h => k2 (by simpa [if_icmp.holds] using h))
theorem Go.iclt (C : Cx p below m c cd T) {x y : Int32} {o : Int} {q : Nat} (d : Dec cd pc (.if_icmp .lt o) 3 n) (ho : 0 ≤ (pc : Int) + o) (hp : ((pc : Int) + o).toNat = q)
    (k1 : x < y → Go p e below F T (mkF m q L r)) (k2 : ¬ x < y → Go p e below F T (mkF m n L r)) : Go p e below F T (mkF m pc L (.int y :: .int x :: r)) :=
  Go.icb C d ho hp (fun h => k1 (by simpa [if_icmp.holds] using h)) (fun h => k2 (by simpa [if_icmp.holds] using h))
theorem Go.icge (C : Cx p below m c cd T) {x y : Int32} {o : Int} {q : Nat} (d : Dec cd pc (.if_icmp .ge o) 3 n) (ho : 0 ≤ (pc : Int) + o) (hp : ((pc : Int) + o).toNat = q)
    (k1 : ¬ x < y → Go p e below F T (mkF m q L r)) (k2 : x < y → Go p e below F T (mkF m n L r)) : Go p e below F T (mkF m pc L (.int y :: .int x :: r)) :=
  Go.icb C d ho hp (fun h => k1 (by simpa [if_icmp.holds] using h)) (fun h => k2 (by simpa [if_icmp.holds] using h))
theorem Go.icgt (C : Cx p below m c cd T) {x y : Int32} {o : Int} {q : Nat} (d : Dec cd pc (.if_icmp .gt o) 3 n) (ho : 0 ≤ (pc : Int) + o) (hp : ((pc : Int) + o).toNat = q)
    (k1 : y < x → Go p e below F T (mkF m q L r)) (k2 : ¬ y < x → Go p e below F T (mkF m n L r)) : Go p e below F T (mkF m pc L (.int y :: .int x :: r)) :=
  Go.icb C d ho hp (fun h => k1 (by simpa [if_icmp.holds] using h)) (fun h => k2 (by simpa [if_icmp.holds] using h))
theorem Go.icle (C : Cx p below m c cd T) {x y : Int32} {o : Int} {q : Nat} (d : Dec cd pc (.if_icmp .le o) 3 n) (ho : 0 ≤ (pc : Int) + o) (hp : ((pc : Int) + o).toNat = q)
    (k1 : ¬ y < x → Go p e below F T (mkF m q L r)) (k2 : y < x → Go p e below F T (mkF m n L r)) : Go p e below F T (mkF m pc L (.int y :: .int x :: r)) :=
  Go.icb C d ho hp (fun h => k1 (by simpa [if_icmp.holds] using h)) (fun h => k2 (by simpa [if_icmp.holds] using h))
theorem Go.ifnull_y (C : Cx p below m c cd T) {o : Int} {q : Nat} (d : Dec cd pc (.ifnull o) 3 n) (ho : 0 ≤ (pc : Int) + o) (hp : ((pc : Int) + o).toNat = q)
    (k : Go p e below F T (mkF m q L r)) : Go p e below F T (mkF m pc L (.null :: r)) := by
  obtain ⟨t, st, f⟩ := k; obtain ⟨d, rfl⟩ := d
  exact ⟨t, XS.ifnullYes C.1 C.2.1 rfl (pc0 := pc) rfl (hb C.2.2 d) rfl ho hp st, f⟩
theorem Go.ifnull_n (C : Cx p below m c cd T) {o : Int} {a : Addr} (d : Dec cd pc (.ifnull o) 3 n)
    (k : Go p e below F T (mkF m n L r)) : Go p e below F T (mkF m pc L (.ref a :: r)) := by
  obtain ⟨t, st, f⟩ := k; obtain ⟨d, rfl⟩ := d
  exact ⟨t, XS.ifnullNo C.1 C.2.1 rfl (hb C.2.2 d) rfl st, f⟩
theorem Go.ifnonnull_y (C : Cx p below m c cd T) {o : Int} {q : Nat} {a : Addr} (d : Dec cd pc (.ifnonnull o) 3 n) (ho : 0 ≤ (pc : Int) + o) (hp : ((pc : Int) + o).toNat = q)
    (k : Go p e below F T (mkF m q L r)) : Go p e below F T (mkF m pc L (.ref a :: r)) := by
  obtain ⟨t, st, f⟩ := k; obtain ⟨d, rfl⟩ := d
  exact ⟨t, XS.ifnonnullYes C.1 C.2.1 rfl (pc0 := pc) rfl (hb C.2.2 d) rfl ho hp st, f⟩
theorem Go.ifnonnull_n (C : Cx p below m c cd T) {o : Int} (d : Dec cd pc (.ifnonnull o) 3 n)
    (k : Go p e below F T (mkF m n L r)) : Go p e below F T (mkF m pc L (.null :: r)) := by
  obtain ⟨t, st, f⟩ := k; obtain ⟨d, rfl⟩ := d
  exact ⟨t, XS.ifnonnullNo C.1 C.2.1 rfl (hb C.2.2 d) rfl st, f⟩
end Plain
section Walk
/-- a walk stands at T, the heap h: over its own start s whose tables may have come to vm0; what xs names is the walk's own to write -/
def Wk (nw : Prop) (EL : List (String × Nat)) (n0 : Nat) (Z : State) (a0 : Array Value) (own nm : String) (cd : ByteArray) (ml : Nat) (ret : Option FieldType) (p : Program) (l : Launch) (e : Env) (R : Room) (s : State) (m : MethodId) (args : Array Value) (below : List Frame) (meth : Method) (c : Code) (T : State) (h : Heap) (xs : List Addr) (cells slots : Nat) : Prop :=
  ∃ (vm0 : Vm) (k0 : Nat) (locs : List Loc), Stand p l e R (s.setVm vm0) m args below meth c T locs cells slots ∧ T.heap = h ∧ s.Since vm0 k0 ∧ k0 ≤ h.size ∧ (nw → s.WarmedH vm0) ∧ Z.Warmed39 vm0 ∧ vm0.findClass own = some m.cls ∧ EW Z a0 EL ∧ CHr Z EL s.vm s.heap vm0 h ∧ Fr n0 locs ∧ Old Z n0 h ∧
    (∀ x ∈ xs, n0 ≤ x ∧ x < h.size ∧ Safe Z EL vm0 h x) ∧ p.tables.exec = Jvm.exec ∧ c.code = cd ∧ c.maxLocals = ml ∧ meth.sig.returnType = ret ∧ meth.locks = false ∧ meth.name = nm
/-- how a body's walk ends -/
def Endp (nw : Prop) (EL : List (String × Nat)) (n0 : Nat) (Z : State) (below : List Frame) (s : State) (kc ks : Nat) (Q : Option Value → Heap → Prop) (t : State) : Prop :=
  t.status = .running ∧ ∃ v Lc, Ended t below (.returned v) ∧ Q v t.heap ∧ Fr n0 Lc ∧ Old Z n0 t.heap ∧ CHr Z EL s.vm s.heap t.vm t.heap ∧ ReturnedEndW s (.returned v) t Lc kc ks ∧ (nw → s.WarmedH t.vm)
/-- a body's contract -/
def Ctr (nw : Prop) (EL : List (String × Nat)) (n0 : Nat) (Z : State) (xs : List Addr) (l : Launch) (y : MethodName) (bytes : ByteArray) (maxL : Nat) (ret : Option FieldType) (rm : Room) (as' : Array Value) (h : Heap) (Q : Option Value → Heap → Prop) : Prop :=
  ∀ ws, MetFree l y (head1 (Cond.code y bytes maxL ret :: ws) rm) (fun a U => a = as' ∧ U.heap = h ∧ Z.Warmed39 U.vm ∧ CHv Z EL U.vm h ∧ ∀ x ∈ xs, Safe Z EL U.vm h x) (fun _ _ _ _ _ => True)
    (fun _ U o U' => ∃ v Lc, o = .returned v ∧ Q v U'.heap ∧ Fr n0 Lc ∧ Old Z n0 U'.heap ∧ CHr Z EL U.vm U.heap U'.vm U'.heap ∧ ReturnedEndW U o U' Lc rm.cells rm.slots ∧ (nw → U.WarmedH U'.vm))
/-- a call that comes back -/
def Call (nw : Prop) (EL : List (String × Nat)) (n0 : Nat) (Z : State) (xs : List Addr) (l : Launch) (R : Room) (p : Program) (e : Env) (below : List Frame) (s : State) (args : Array Value) (y : MethodName) (len W : Nat) (as' : Array Value) (h : Heap) (kc ks : Nat) (Q : Option Value → Heap → Prop) : Prop :=
  ∀ vm0, Z.Warmed39 vm0 → CHv Z EL vm0 h → Old Z n0 h → (∀ x ∈ xs, n0 ≤ x ∧ x < h.size ∧ Safe Z EL vm0 h x) →
    BackS l R p e below (s.setVm vm0) args y len W (fun A a => a = as' ∧ A.U.heap = h ∧ A.cells + kc ≤ R.cells ∧ A.slots + ks ≤ R.slots)
      (fun A _ v B => ∃ Lc, Q v B.U.heap ∧ B.locs = A.locs ++ Lc ∧ B.cells = A.cells + kc ∧ B.slots = A.slots + ks ∧ Fr n0 Lc ∧ Old Z n0 B.U.heap ∧ CHr Z EL vm0 h B.U.vm B.U.heap ∧ (nw → (s.setVm vm0).WarmedH B.U.vm))
/-- what a body hands back: a value, or nothing -/
def RV (Q : Value → Heap → Prop) (v : Option Value) (h : Heap) : Prop := ∃ w, v = some w ∧ Q w h
def RN (Q : Heap → Prop) (v : Option Value) (h : Heap) : Prop := v = none ∧ Q h
variable {nw : Prop} {EL : List (String × Nat)} {n0 : Nat} {Z : State} {a0 : Array Value} {own nm : String} {cd : ByteArray} {ml : Nat} {ret : Option FieldType} {p : Program} {l : Launch} {e : Env} {R : Room} {s : State} {m : MethodId} {args : Array Value} {below : List Frame} {meth : Method} {c : Code} {T : State} {h : Heap} {xs : List Addr} {cells slots : Nat}
variable {F : State → Prop} {pc n : Nat} {L : Array Slot} {r : List Value}
theorem Wk.cx (W : Wk nw EL n0 Z a0 own nm cd ml ret p l e R s m args below meth c T h xs cells slots) : Cx p below m c cd T := by
  obtain ⟨vm0, k0, locs, X, eT, hS, hk, hn, hZ, ho, hE, hC, hF, hO, hxs, hx, hby, rest⟩ := W
  exact ⟨X.here, hx, hby⟩
theorem Wk.old (W : Wk nw EL n0 Z a0 own nm cd ml ret p l e R s m args below meth c T h xs cells slots) : Old Z n0 h := by
  obtain ⟨vm0, k0, locs, X, eT, hS, hk, hn, hZ, ho, hE, hC, hF, hO, hxs, rest⟩ := W
  exact hO
theorem Wk.ew (W : Wk nw EL n0 Z a0 own nm cd ml ret p l e R s m args below meth c T h xs cells slots) : EW Z a0 EL := by
  obtain ⟨vm0, k0, locs, X, eT, hS, hk, hn, hZ, ho, hE, rest⟩ := W
  exact hE
theorem old_le (hO : Old Z n0 h) : n0 ≤ h.size := hO.1 ▸ hO.2.1
theorem Wk.mine (W : Wk nw EL n0 Z a0 own nm cd ml ret p l e R s m args below meth c T h xs cells slots) {x : Addr} (hm : x ∈ xs) : n0 ≤ x ∧ x < h.size := by
  obtain ⟨vm0, k0, locs, X, eT, hS, hk, hn, hZ, ho, hE, hC, hF, hO, hxs, rest⟩ := W
  exact ⟨(hxs x hm).1, (hxs x hm).2.1⟩
theorem Wk.mono (W : Wk nw EL n0 Z a0 own nm cd ml ret p l e R s m args below meth c T h xs cells slots) {cells' slots' : Nat} (h1 : cells ≤ cells') (h2 : slots ≤ slots') : Wk nw EL n0 Z a0 own nm cd ml ret p l e R s m args below meth c T h xs cells' slots' := by
  obtain ⟨vm0, k0, locs, X, rest⟩ := W
  exact ⟨vm0, k0, locs, ⟨X.admits, X.cas, X.clock, X.frames, X.room, X.hears, X.method, X.code, X.here, X.tail, X.warmed, X.limits, X.bytes, X.same.mono h1 h2⟩, rest⟩
theorem Wk.less (W : Wk nw EL n0 Z a0 own nm cd ml ret p l e R s m args below meth c T h xs cells slots) {xs' : List Addr} (hs : ∀ x ∈ xs', x ∈ xs) : Wk nw EL n0 Z a0 own nm cd ml ret p l e R s m args below meth c T h xs' cells slots := by
  obtain ⟨vm0, k0, locs, X, eT, hS, hk, hn, hZ, ho, hE, hC, hF, hO, hxs, rest⟩ := W
  exact ⟨vm0, k0, locs, X, eT, hS, hk, hn, hZ, ho, hE, hC, hF, hO, fun x q => hxs x (hs x q), rest⟩
theorem Wk.exa (W : Wk nw EL n0 Z a0 own nm cd ml ret p l e R s m args below meth c T h xs cells slots) {x : Addr} {C : String} (E : Exa Z h x C) (hx : n0 ≤ x) (h1 : C ≠ "java/lang/String") (h2 : C ≠ "[B") : Wk nw EL n0 Z a0 own nm cd ml ret p l e R s m args below meth c T h (x :: xs) cells slots := by
  obtain ⟨vm0, k0, locs, X, eT, hS, hk, hn, hZ, ho, hE, hC, hF, hO, hxs, rest⟩ := W
  refine ⟨vm0, k0, locs, X, eT, hS, hk, hn, hZ, ho, hE, hC, hF, hO, fun y q => ?_, rest⟩
  rcases List.mem_cons.mp q with rfl | q
  · exact ⟨hx, E.lt, Safe.exa hZ.alike E h1 h2⟩
  · exact hxs y q
theorem Wk.arv (W : Wk nw EL n0 Z a0 own nm cd ml ret p l e R s m args below meth c T h xs cells slots) {x : Addr} {k : ClassId} {ty : FieldType} {z : Int32} {vs : List Value} {dv : Value} (E : Arv Z h x k ty z vs dv) (hx : n0 ≤ x) (h1 : ty ≠ .byte) : Wk nw EL n0 Z a0 own nm cd ml ret p l e R s m args below meth c T h (x :: xs) cells slots := by
  obtain ⟨vm0, k0, locs, X, eT, hS, hk, hn, hZ, ho, hE, hC, hF, hO, hxs, rest⟩ := W
  refine ⟨vm0, k0, locs, X, eT, hS, hk, hn, hZ, ho, hE, hC, hF, hO, fun y q => ?_, rest⟩
  rcases List.mem_cons.mp q with rfl | q
  · exact ⟨hx, E.lt, Safe.arv hZ.alike E h1⟩
  · exact hxs y q
/-- getfield -/
theorem Go.getf (W : Wk nw EL n0 Z a0 own nm cd ml ret p l e R s m args below meth c T h xs cells slots) {R0 O f ty : String} {ix : Nat} {a : Addr} {v : Value} (d : Dec cd pc (.getfield ix) 3 n) (w : (Cond.fieldLink own ix R0 f ty).before a0 Z = true) (via : Via Z R0 O f ty) (Fl : Fld Z h a O f ty v)
    (k : ∀ T', Wk nw EL n0 Z a0 own nm cd ml ret p l e R s m args below meth c T' h xs cells slots → Go p e below F T' (mkF m n L (v :: r))) : Go p e below F T (mkF m pc L (.ref a :: r)) := by
  obtain ⟨vm0, k0, locs, X, eT, hS, hk, hn, hZ, ho, hE, hC, hF, hO, hxs, hx, hby, rest⟩ := W
  obtain ⟨d, rfl⟩ := d
  obtain ⟨T', X', e', st⟩ := getF X hx hZ ho (host := "") (Or.inl w) via eT Fl (g := mkF m pc L (.ref a :: r)) rfl rfl (hb hby d)
  exact Go.st st (k T' ⟨vm0, k0, locs, X', e', hS, hk, hn, hZ, ho, hE, hC, hF, hO, hxs, hx, hby, rest⟩)
/-- getstatic -/
theorem Go.gets (W : Wk nw EL n0 Z a0 own nm cd ml ret p l e R s m args below meth c T h xs cells slots) {R0 O f ty : String} {ix : Nat} {v : Value} (d : Dec cd pc (.getstatic ix) 3 n) (w : (Cond.fieldLink own ix R0 f ty).before a0 Z = true) (via : Via Z R0 O f ty) (Fl : Sta Z Z.heap O f ty v)
    (k : ∀ T', Wk nw EL n0 Z a0 own nm cd ml ret p l e R s m args below meth c T' h xs cells slots → Go p e below F T' (mkF m n L (v :: r))) : Go p e below F T (mkF m pc L r) := by
  obtain ⟨vm0, k0, locs, X, eT, hS, hk, hn, hZ, ho, hE, hC, hF, hO, hxs, hx, hby, rest⟩ := W
  obtain ⟨d, rfl⟩ := d
  obtain ⟨T', X', e', st⟩ := getS (host := "") X hx hZ ho w via eT (Fl.ext hO.2) (g := mkF m pc L r) rfl (hb hby d)
  exact Go.st st (k T' ⟨vm0, k0, locs, X', e', hS, hk, hn, hZ, ho, hE, hC, hF, hO, hxs, hx, hby, rest⟩)
/-- putfield on an object of the walk's own -/
theorem Go.putf (W : Wk nw EL n0 Z a0 own nm cd ml ret p l e R s m args below meth c T h xs cells slots) {R0 O f ty C : String} {ix kk : Nat} {t : FieldType} {a : Addr} {v v' old : Value} (d : Dec cd pc (.putfield ix) 3 n) (w : (Cond.fieldLink own ix R0 f ty).before a0 Z = true) (via : Via Z R0 O f ty) (Fl : Fld Z h a O f ty old) (E : Exa Z h a C)
    (hl : (Cond.lays C O f ty).before a0 Z = true ∨ ((Cond.laysFinal C O f ty).before a0 Z = true ∧ own = O ∧ nm = "<init>")) (wi : (Cond.instantiable C kk).before a0 Z = true) (hty : parseFieldDescriptor ty = some t) (hnv : narrow t v = v') (hf : fits t v' = true) (ha : a ∈ xs)
    (k : ∀ T' h', Wk nw EL n0 Z a0 own nm cd ml ret p l e R s m args below meth c T' h' xs cells slots → Wr h h' a (RoadKit.slotOf Z O f ty) v' → Go p e below F T' (mkF m n L r)) : Go p e below F T (mkF m pc L (v :: .ref a :: r)) := by
  obtain ⟨vm0, k0, locs, X, eT, hS, hk, hn, hZ, ho, hE, hC, hF, hO, hxs, hx, hby, hml, hrt, hlk, hnm⟩ := W
  obtain ⟨d, rfl⟩ := d
  obtain ⟨T', h', X', e', Wr', st⟩ := putFN X hx hZ ho w via eT Fl E (hl.imp id fun q => ⟨q.1, q.2.1, hnm.trans q.2.2⟩) wi hty hnv hf (g := mkF m pc L (v :: .ref a :: r)) rfl rfl (hb hby d)
  have q := hxs a ha
  have C1 := CHr.wr Wr' q.2.2 hC.1
  have sz : h'.size = h.size := Wr'.size
  exact Go.st st (k T' h' ⟨vm0, k0, _, X', e', hS, by rw [sz]; exact hk, hn, hZ, ho, hE, hC.trans C1, Fr.snoc X' hF q.1, hO.wr Wr' q.1, fun x hm => ⟨(hxs x hm).1, by rw [sz]; exact (hxs x hm).2.1, C1.safe (hxs x hm).2.1 (hxs x hm).2.2⟩, hx, hby, hml, hrt, hlk, hnm⟩ Wr')
/-- new -/
theorem Go.new (W : Wk nw EL n0 Z a0 own nm cd ml ret p l e R s m args below meth c T h xs cells slots) {C : String} {ix kk cells' slots' : Nat} (d : Dec cd pc (.new ix) 3 n) (w : (Cond.classLink own ix C).before a0 Z = true) (wi : (Cond.instantiable C kk).before a0 Z = true) (wz : (Cond.initialized C).before a0 Z = true)
    (hc : cells + 1 = cells') (hs : slots + kk = slots') (hc' : cells' ≤ R.cells) (hs' : slots' ≤ R.slots)
    (k : ∀ T' h' a, a = h.size → Wk nw EL n0 Z a0 own nm cd ml ret p l e R s m args below meth c T' h' (a :: xs) cells' slots' → Ext h h' → Exa Z h' a C → (∀ {O f ty : String} {t : FieldType}, Laid Z a0 C O f ty → parseFieldDescriptor ty = some t → Fld Z h' a O f ty (defaultValue t)) → Go p e below F T' (mkF m n L (.ref a :: r))) : Go p e below F T (mkF m pc L r) := by
  obtain ⟨vm0, k0, locs, X, eT, hS, hk, hn, hZ, ho, hE, hC, hF, hO, hxs, hx, hby, rest⟩ := W
  obtain ⟨d, rfl⟩ := d
  subst hc hs
  obtain ⟨T', h', X', e', E, A, D, -, st⟩ := newO X hx hZ ho w wi wz eT (g := mkF m pc L r) rfl (hb hby d) hc' hs'
  have C1 := CHr.ext E hC.1
  refine Go.st st (k T' h' h.size rfl ⟨vm0, k0, locs, X', e', hS, Nat.le_trans hk E.1, hn, hZ, ho, hE, hC.trans C1, hF, hO.ext E, fun x hm => ?_, hx, hby, rest⟩ E A (fun l t => D l t))
  rcases List.mem_cons.mp hm with rfl | hm
  · exact ⟨old_le hO, A.lt, Safe.ext E hC.1 (Safe.new (Nat.le_refl _))⟩
  · exact ⟨(hxs x hm).1, Nat.lt_of_lt_of_le (hxs x hm).2.1 E.1, C1.safe (hxs x hm).2.1 (hxs x hm).2.2⟩
/-- newarray -/
theorem Go.newarr (W : Wk nw EL n0 Z a0 own nm cd ml ret p l e R s m args below meth c T h xs cells slots) {aty : ArrayType} {z : Int32} {cap cells' slots' : Nat} (d : Dec cd pc (.newarray aty) 2 n) (w : (Cond.arrayClass (newarray.typeOf aty)).before a0 Z = true)
    (hz : ¬ z < 0) (hcap : z.toNatClampNeg ≤ cap) (hbig : cap * 8 ≤ 536870912) (hc : cells + 1 = cells') (hs : slots + cap = slots') (hc' : cells' ≤ R.cells) (hs' : slots' ≤ R.slots)
    (k : ∀ T' h' a ka, a = h.size → Wk nw EL n0 Z a0 own nm cd ml ret p l e R s m args below meth c T' h' (a :: xs) cells' slots' → Ext h h' → Arv Z h' a ka (newarray.typeOf aty) z [] (defaultValue (newarray.typeOf aty)) → Go p e below F T' (mkF m n L (.ref a :: r))) : Go p e below F T (mkF m pc L (.int z :: r)) := by
  obtain ⟨vm0, k0, locs, X, eT, hS, hk, hn, hZ, ho, hE, hC, hF, hO, hxs, hx, hby, rest⟩ := W
  obtain ⟨d, rfl⟩ := d
  subst hc hs
  obtain ⟨T', h', cA, X', e', E, A, st⟩ := newP X hx hZ w eT (g := mkF m pc L (.int z :: r)) rfl (hb hby d) rfl hz hcap hbig hc' hs'
  have C1 := CHr.ext E hC.1
  refine Go.st st (k T' h' h.size cA rfl ⟨vm0, k0, locs, X', e', hS, Nat.le_trans hk E.1, hn, hZ, ho, hE, hC.trans C1, hF, hO.ext E, fun x hm => ?_, hx, hby, rest⟩ E (Arv.new A hz))
  rcases List.mem_cons.mp hm with rfl | hm
  · exact ⟨old_le hO, A.lt, Safe.ext E hC.1 (Safe.new (Nat.le_refl _))⟩
  · exact ⟨(hxs x hm).1, Nat.lt_of_lt_of_le (hxs x hm).2.1 E.1, C1.safe (hxs x hm).2.1 (hxs x hm).2.2⟩
/-- Object.<init> -/
theorem Go.initObj (W : Wk nw EL n0 Z a0 own nm cd ml ret p l e R s m args below meth c T h xs cells slots) {ix wt : Nat} {a : Addr} (d : Dec cd pc (.invokespecial ix) 3 n) (w1 : (Cond.methodLink own ix Lib.objectInit).before a0 Z = true) (w2 : (Cond.instanceMethod Lib.objectInit).before a0 Z = true) (w3 : (Cond.code Lib.objectInit ⟨#[0xb1]⟩ 1 none).before a0 Z = true)
    (hsz : L.size = ml) (hf : 1 ≤ R.frames) (hw : (r.map fun v => v.category).sum = wt) (hl : wt + 12 ≤ R.locals)
    (k : ∀ T', Wk nw EL n0 Z a0 own nm cd ml ret p l e R s m args below meth c T' h xs cells slots → Go p e below F T' (mkF m n L r)) : Go p e below F T (mkF m pc L (.ref a :: r)) := by
  obtain ⟨vm0, k0, locs, X, eT, hS, hk, hn, hZ, ho, hE, hC, hF, hO, hxs, hx, hby, hml, rest⟩ := W
  obtain ⟨d, rfl⟩ := d
  obtain ⟨T', X', e', st⟩ := initO X hx hZ ho w1 w2 w3 eT (g := mkF m pc L (.ref a :: r)) rfl (hsz.trans hml.symm) rfl (hb hby d) hf (W := wt) (by show 2 * 0 + _ ≤ _; omega) hl
  exact Go.st st (k T' ⟨vm0, k0, locs, X', e', hS, hk, hn, hZ, ho, hE, hC, hF, hO, hxs, hx, hby, hml, rest⟩)
/-- a char[] of the walk, its chars -/
def CArr (Z : State) (h : Heap) (a : Addr) (ka : ClassId) (cs : List Int32) : Prop := Arv Z h a ka .char (Int32.ofNat cs.length) (cs.map Value.int) (.int 0)
theorem CArr.lt {a : Addr} {ka : ClassId} {cs : List Int32} (A : CArr Z h a ka cs) : a < h.size := Arv.lt A
theorem CArr.ext {h' : Heap} {a : Addr} {ka : ClassId} {cs : List Int32} (A : CArr Z h a ka cs) (E : Ext h h') : CArr Z h' a ka cs := Arv.ext A E
theorem CArr.keep {h' : Heap} {a : Addr} {ka : ClassId} {cs : List Int32} {ws : List Addr} (A : CArr Z h a ka cs) (K : Keep h h' ws) (q : a ∉ ws) : CArr Z h' a ka cs := Arv.keep A K q
theorem clamp_nat {i : Nat} (h : i < 2 ^ 31) : (Int32.ofNat i).toNatClampNeg = i := LawKit.clamp_of rfl h
theorem CArr.of_new {a : Addr} {ka : ClassId} {z : Int32} (A : Arv Z h a ka .char z [] (.int 0)) {cs : List Int32} {k : Nat} (hc : cs = List.replicate k 0) (hz : z = Int32.ofNat k) : CArr Z h a ka cs := by
  subst hc hz
  unfold CArr
  rw [List.length_replicate, List.map_replicate]
  exact Arv.pad A (fun i => by simpa using pad_rep [] (.int 0) k i)
theorem in_of {i k : Nat} {z : Int32} (hz : z = Int32.ofNat k) (hi : i < k) (hk : k < 2 ^ 31) : ¬ (Int32.ofNat i) < 0 ∧ (Int32.ofNat i) < z := by
  subst hz
  rw [Int32.lt_iff_toInt_lt, Int32.lt_iff_toInt_lt, LawKit.toInt_of (n := Int32.ofNat i) rfl (by omega), LawKit.toInt_of (n := Int32.ofNat k) rfl hk]
  constructor
  · show ¬ (i : Int) < 0; omega
  · omega
/-- castore into a char[] of the walk's own -/
theorem Go.castore (W : Wk nw EL n0 Z a0 own nm cd ml ret p l e R s m args below meth c T h xs cells slots) {a : Addr} {ka : ClassId} {cs : List Int32} {j x x' : Int32} (i : Nat) (d : Dec cd pc .castore 1 n) (A : CArr Z h a ka cs) (ha : a ∈ xs) (hj : j = Int32.ofNat i) (hi : i < cs.length) (hlen : cs.length < 2 ^ 31) (hx' : nar .char x = x')
    (k : ∀ T' h', Wk nw EL n0 Z a0 own nm cd ml ret p l e R s m args below meth c T' h' xs cells slots → Keep h h' [a] → CArr Z h' a ka (cs.set i x') → Go p e below F T' (mkF m n L r)) : Go p e below F T (mkF m pc L (.int x :: .int j :: .ref a :: r)) := by
  obtain ⟨vm0, k0, locs, X, eT, hS, hk, hn, hZ, ho, hE, hC, hF, hO, hxs, hx, hby, rest⟩ := W
  obtain ⟨d, rfl⟩ := d
  subst hx' hj
  obtain ⟨cl, A1, q1, S1, M1, H1, U1⟩ := id A
  have hin := inb_of S1 (in_of rfl hi hlen)
  obtain ⟨T', h', X', e', Wr', st⟩ := stC X hx hZ eT A1 hin (g := mkF m pc L (.int x :: .int (Int32.ofNat i) :: .ref a :: r)) rfl rfl (hb hby d)
  have q := hxs a ha
  have C1 := CHr.wr Wr' q.2.2 hC.1
  have sz : h'.size = h.size := Wr'.size
  have A2 : CArr Z h' a ka (cs.set i (nar .char x)) := by
    have B := Arv.set A1 q1 S1 M1 H1 U1 (fits_nar_char x) Wr' i (clamp_nat (by omega)) (by simpa using hi)
    unfold CArr
    rw [List.length_set, List.map_set]
    exact B
  exact Go.st st (k T' h' ⟨vm0, k0, _, X', e', hS, by rw [sz]; exact hk, hn, hZ, ho, hE, hC.trans C1, Fr.snoc X' hF q.1, hO.wr Wr' q.1, fun x hm => ⟨(hxs x hm).1, by rw [sz]; exact (hxs x hm).2.1, C1.safe (hxs x hm).2.1 (hxs x hm).2.2⟩, hx, hby, rest⟩ (Keep.of_wr Wr') A2)
/-- caload -/
theorem Go.caload (W : Wk nw EL n0 Z a0 own nm cd ml ret p l e R s m args below meth c T h xs cells slots) {a : Addr} {ka : ClassId} {cs : List Int32} {j v : Int32} (i : Nat) (d : Dec cd pc .caload 1 n) (A : CArr Z h a ka cs) (hj : j = Int32.ofNat i) (hi : i < cs.length) (hlen : cs.length < 2 ^ 31) (hv : cs.getD i 0 = v)
    (k : Go p e below F T (mkF m n L (.int v :: r))) : Go p e below F T (mkF m pc L (.int j :: .ref a :: r)) := by
  obtain ⟨vm0, k0, locs, X, eT, hS, hk, hn, hZ, ho, hE, hC, hF, hO, hxs, hx, hby, rest⟩ := W
  obtain ⟨d, rfl⟩ := d
  subst hj
  obtain ⟨cl, A1, q1, S1, M1, H1, U1⟩ := id A
  have hin := inb_of S1 (in_of rfl hi hlen)
  have hat := Has.at (v := .int v) H1 hin (by rw [clamp_nat (by omega)]; simp only [List.getD_eq_getElem?_getD, List.getElem?_map] at hv ⊢; rw [List.getElem?_eq_getElem hi] at hv ⊢; simpa using hv)
  exact Go.st (fun t st => X.caload hx (by rw [eT]; exact A1.1) (State.isArrayOf_alike hZ.alike A1.2.1) A1.2.2 hin hat (g := mkF m pc L (.int (Int32.ofNat i) :: .ref a :: r)) rfl rfl (hb hby d) t st) k
/-- arraylength -/
theorem Go.alen (W : Wk nw EL n0 Z a0 own nm cd ml ret p l e R s m args below meth c T h xs cells slots) {a : Addr} {ka : ClassId} {ty : FieldType} {z : Int32} {vs : List Value} {dv : Value} (d : Dec cd pc .arraylength 1 n) (A : Arv Z h a ka ty z vs dv)
    (k : Go p e below F T (mkF m n L (.int z :: r))) : Go p e below F T (mkF m pc L (.ref a :: r)) := by
  obtain ⟨vm0, k0, locs, X, eT, hS, hk, hn, hZ, ho, hE, hC, hF, hO, hxs, hx, hby, rest⟩ := W
  obtain ⟨d, rfl⟩ := d
  obtain ⟨cl, A1, q1, S1, M1, H1, U1⟩ := id A
  have e1 := len_of S1 M1
  exact Go.st (fun t st => X.arraylength hx (by rw [eT]; exact A1.1) (State.isArrayOf_alike hZ.alike A1.2.1) (g := mkF m pc L (.ref a :: r)) rfl rfl (hb hby d) t (by rw [e1]; exact st)) k
/-- ldc of an int -/
theorem Go.ldcI (W : Wk nw EL n0 Z a0 own nm cd ml ret p l e R s m args below meth c T h xs cells slots) {ix : Nat} {v : Int32} (d : Dec cd pc (.ldc ix) 2 n) (w : (Cond.constant own ix v).before a0 Z = true)
    (k : Go p e below F T (mkF m n L (.int v :: r))) : Go p e below F T (mkF m pc L r) := by
  obtain ⟨vm0, k0, locs, X, eT, hS, hk, hn, hZ, ho, hE, hC, hF, hO, hxs, hx, hby, rest⟩ := W
  obtain ⟨d, rfl⟩ := d
  exact Go.st (fun t st => X.ldcInt hx ho (mv hZ w) (g := mkF m pc L r) rfl (hb hby d) t st) k
theorem Go.ldc2J (W : Wk nw EL n0 Z a0 own nm cd ml ret p l e R s m args below meth c T h xs cells slots) {ix : Nat} {v : Int64} (d : Dec cd pc (.ldc2_w ix) 3 n) (w : (Cond.constantLong own ix v).before a0 Z = true)
    (k : Go p e below F T (mkF m n L (.long v :: r))) : Go p e below F T (mkF m pc L r) := by
  obtain ⟨vm0, k0, locs, X, eT, hS, hk, hn, hZ, ho, hE, hC, hF, hO, hxs, hx, hby, rest⟩ := W
  obtain ⟨d, rfl⟩ := d
  exact Go.st (fun t st => X.ldc2Long hx ho (mv hZ w) (g := mkF m pc L r) rfl (hb hby d) t st) k
/-! the ends -/
theorem Go.fin (W : Wk nw EL n0 Z a0 own nm cd ml ret p l e R s m args below meth c T h xs cells slots) {kc ks : Nat} {Q : Option Value → Heap → Prop} {v : Option Value} {g : JFrame} (hc : cells ≤ kc) (hs : slots ≤ ks) (hQ : Q v h) (hv : ret = none → v = none)
    (st : ∀ vm0 locs fs, Stand p l e R (s.setVm vm0) m args below meth c T locs cells slots → p.tables.exec = Jvm.exec → c.code = cd → meth.sig.returnType = ret → (∀ (f : JFrame) (acts : List Action), f.method = m → f.locked = none → f.entered = [] → (doReturn e (T.setTop f) acts v).1 = T.setFrames fs) → Steps p.tables e below (T.setTop g) (T.setFrames fs)) :
    Go p e below (Endp nw EL n0 Z below s kc ks Q) T g := by
  obtain ⟨vm0, k0, locs, X, eT, hS, hk, hn, hZ, ho, hE, hC, hF, hO, hxs, hx, hby, hml, hrt, hlk, hnm⟩ := W
  obtain ⟨fs, hr, hrun, hended, r1, r2, r3, r4⟩ := X.leaveW hS (by rw [eT]; exact hk) (v := v) (fun q => hv (hrt ▸ q)) hlk
  have eh : (T.setFrames fs).heap = h := eT
  refine ⟨T.setFrames fs, st vm0 locs fs X hx hby hrt hr, hrun, v, locs, hended, by rw [eh]; exact hQ, hF, by rw [eh]; exact hO, ?_, ⟨r1, r2, r3, r4.mono hc hs⟩, fun q => ?_⟩
  · show CHr Z EL s.vm s.heap T.vm T.heap
    rw [eT]; exact hC.trans (CHv.at X hZ hE hC.1)
  · exact State.WarmedH.trans (t := s.setVm vm0) (hn q) X.warmed
theorem Go.iret (W : Wk nw EL n0 Z a0 own nm cd ml (some t) p l e R s m args below meth c T h xs cells slots) {kc ks : Nat} {Q : Option Value → Heap → Prop} {z : Int32} (d : Dec cd pc .ireturn 1 n) (ht : t = .int ∨ t = .boolean ∨ t = .byte ∨ t = .char ∨ t = .short) (hn : narrow t (.int z) = .int z) (hc : cells ≤ kc) (hs : slots ≤ ks) (hQ : Q (some (.int z)) h) :
    Go p e below (Endp nw EL n0 Z below s kc ks Q) T (mkF m pc L (.int z :: r)) :=
  Go.fin W hc hs hQ (fun q => nomatch q) (fun vm0 locs fs X hx hby hrt hr => retOut X hx hrt hn (Or.inl ⟨rfl, ht, z, rfl⟩) (hb hby d.1) hr)
theorem Go.aret (W : Wk nw EL n0 Z a0 own nm cd ml (some t) p l e R s m args below meth c T h xs cells slots) {kc ks : Nat} {Q : Option Value → Heap → Prop} {v : Value} (d : Dec cd pc .areturn 1 n) (ht : t.isReference = true) (hv : v.isRef = true) (hn : narrow t v = v) (hc : cells ≤ kc) (hs : slots ≤ ks) (hQ : Q (some v) h) :
    Go p e below (Endp nw EL n0 Z below s kc ks Q) T (mkF m pc L (v :: r)) :=
  Go.fin W hc hs hQ (fun q => nomatch q) (fun vm0 locs fs X hx hby hrt hr => retOut X hx hrt hn (Or.inr (Or.inr (Or.inr (Or.inr ⟨rfl, ht, hv⟩)))) (hb hby d.1) hr)
theorem Go.vret (W : Wk nw EL n0 Z a0 own nm cd ml none p l e R s m args below meth c T h xs cells slots) {kc ks : Nat} {Q : Option Value → Heap → Prop} (d : Dec cd pc .return_ 1 n) (hc : cells ≤ kc) (hs : slots ≤ ks) (hQ : Q none h) :
    Go p e below (Endp nw EL n0 Z below s kc ks Q) T (mkF m pc L []) :=
  Go.fin W hc hs hQ (fun _ => rfl) (fun vm0 locs fs X hx hby hrt hr => X.returnOut hx hrt (hb hby d.1) hr)
/-! contracts -/
theorem Ctr.body {y : MethodName} {bytes : ByteArray} {maxL : Nat} {rm : Room} {as' : Array Value} {Q : Option Value → Heap → Prop} {L0 : Array Slot} (hpn : plainFor y = true) (hE : EW Z a0 EL) (hO : Old Z n0 h) (hxs : ∀ x ∈ xs, n0 ≤ x ∧ x < h.size) (ef : ∀ m, entryFrame m as' maxL = mkF m 0 L0 [])
    (hB : ∀ p e s m below meth c T, Wk nw EL n0 Z a0 y.cls y.name bytes maxL ret p l e rm s m as' below meth c T h xs 0 0 → Go p e below (Endp nw EL n0 Z below s rm.cells rm.slots Q) T (mkF m 0 L0 [])) :
    Ctr nw EL n0 Z xs l y bytes maxL ret rm as' h Q := by
  intro ws
  refine MetFree.of_bodySF hpn hisR ?_
  intro p e s m args below meth c s₁ Bd hml hP hK
  obtain ⟨rfl, hh, hZ, hCH, hS⟩ := hP
  have X0 : Stand p l e rm s m args below meth c s₁ [] 0 0 := Stand.of_body Bd
  have e0 : s₁.heap = h := by rw [← hh, Bd.state]; rfl
  have W : Wk nw EL n0 Z a0 y.cls y.name bytes maxL ret p l e rm s m args below meth c s₁ h xs 0 0 :=
    ⟨s.vm, 0, [], X0, e0, (State.WarmedH.refl s).since 0, Nat.zero_le _, fun _ => State.WarmedH.refl s, hZ, findClass_of_methodNamed Bd.named, hE, by rw [hh]; exact CHr.refl hCH, Fr.nil n0, hO, fun x hm => ⟨(hxs x hm).1, (hxs x hm).2, hS x hm⟩, Bd.exec, Bd.bytes, hml, Bd.returns, Bd.notSynchronized, (name_of_methodNamed Bd.named Bd.method).1⟩
  obtain ⟨t, st, hrun, v, Lc, hend, q1, q2, q3, q4, q5, q6⟩ := hB p e s m below meth c s₁ W
  exact ⟨t, .returned v, castTop (ef m) st, hrun, hend, v, Lc, rfl, q1, q2, q3, q4, q5, q6⟩
theorem Ctr.call {y : MethodName} {bytes : ByteArray} {maxL : Nat} {rt : Option FieldType} {rm : Room} {as' : Array Value} {Q : Option Value → Heap → Prop} {xs' : List Addr} {wt len : Nat} (hM : Ctr nw EL n0 Z xs' l y bytes maxL rt rm as' h Q) (hE : EW Z a0 EL) (wc : (Cond.code y bytes maxL rt).before a0 Z = true) (wz : (Cond.initialized y.cls).before a0 Z = true)
    (hxs : ∀ x ∈ xs', x ∈ xs) (hf : rm.frames + 1 ≤ R.frames) (hl : wt + (maxL + 11) + rm.locals ≤ R.locals) : Call nw EL n0 Z xs l R p e below s args y len wt as' h rm.cells rm.slots Q := by
  intro vm0 hZ hCH hO hX
  refine BackS.of_freeW (bytes := bytes) (maxL := maxL) (ret := rt) (E := fun _ first o t Lc k n => k = rm.cells ∧ n = rm.slots ∧ (∃ v, o = .returned v ∧ Q v t.heap) ∧ Fr n0 Lc ∧ Old Z n0 t.heap ∧ CHr Z EL first.vm first.heap t.vm t.heap ∧ (nw → first.WarmedH t.vm)) (hM []) hf hl ?_ ?_ (fun _ _ _ _ _ _ _ _ _ => trivial) ?_ ?_
  · intro m meth c A a Y hp
    have hU : Z.Warmed39 A.U.vm := wtrans (s := s.setVm vm0) hZ Y.warmed
    exact ⟨by show (Cond.and _ .tt).before a A.U = true; rw [Cond.before_and, mv hU wc]; rfl, mv hU wc, mv hU wz, hp.2.2.1, hp.2.2.2⟩
  · intro m meth c A a g mk Y hp
    have K := CHv.at Y hZ hE hCH
    exact ⟨hp.1, hp.2.1, wtrans (s := s.setVm vm0) hZ Y.warmed, K.1, fun x hm => K.safe (hX x (hxs x hm)).2.1 (hX x (hxs x hm)).2.2⟩
  · rintro a first o t ⟨v, Lc, h1, h2, h3, h4, h5, h6, h7⟩
    exact ⟨Lc, _, _, h6, rfl, rfl, ⟨v, h1, h2⟩, h3, h4, h5, h7⟩
  · rintro m meth c A a g mk v t Lc k n Y hp hq hR ⟨e1, e2, ⟨v', e3, e4⟩, e5, e6, e7, e8⟩
    cases e3; subst e1 e2
    refine ⟨Lc, e4, rfl, rfl, rfl, e5, e6, (CHv.at Y hZ hE hCH).trans ?_, fun q => ?_⟩
    · rw [← hp.2.1]; exact e7
    · exact State.WarmedH.trans (t := (A.U.calling g mk a)) Y.warmed (e8 q)
theorem Call.of_back {y : MethodName} {as' : Array Value} {Q : Option Value → Heap → Prop} {Qb : Option Value → Heap → List Loc → Prop} {len wt kc ks : Nat} (hE : EW Z a0 EL)
    (hB : ∀ vm0, Z.Warmed39 vm0 → Old Z n0 h → Back l R p e below (s.setVm vm0) args y len wt (fun A a => a = as' ∧ A.U.heap = h ∧ A.cells + kc ≤ R.cells ∧ A.slots + ks ≤ R.slots) (fun A _ v B => ∃ Lc, Qb v B.U.heap Lc ∧ B.locs = A.locs ++ Lc ∧ B.cells = A.cells + kc ∧ B.slots = A.slots + ks))
    (hQ : ∀ v h' Lc, Old Z n0 h → Qb v h' Lc → Q v h' ∧ Fr n0 Lc ∧ ∃ ws, Keep h h' ws ∧ ∀ x ∈ ws, x ∈ xs) : Call nw EL n0 Z xs l R p e below s args y len wt as' h kc ks Q := by
  intro vm0 hZ hCH hO hX m meth c A g ig mk a X hg hsize hdg hW hn hp
  obtain ⟨v, B, X', ⟨Lc, q, r1, r2, r3⟩, st⟩ := hB vm0 hZ hO m meth c A g ig mk a X hg hsize hdg hW hn hp
  obtain ⟨hq, hF, ws, K, hws⟩ := hQ v _ Lc hO q
  have C1 : CHr Z EL vm0 h vm0 B.U.heap := CHr.keep K (fun x hm => (hX x (hws x hm)).2.2) hCH
  exact ⟨v, B, X'.retabled X'.warmed.wide, X'.warmed.since _, by rw [hp.2.1]; exact K.1, ⟨Lc, hq, r1, r2, r3, hF, hO.keep K (fun x hm => (hX x (hws x hm)).1), C1.trans (CHv.at X' hZ hE C1.1), fun _ => X'.warmed⟩, st⟩
theorem Call.mono {y : MethodName} {as' : Array Value} {Q : Option Value → Heap → Prop} {len wt kc ks kc' ks' : Nat} (hK : Call nw EL n0 Z xs l R p e below s args y len wt as' h kc ks Q) (h1 : kc ≤ kc') (h2 : ks ≤ ks') : Call nw EL n0 Z xs l R p e below s args y len wt as' h kc' ks' Q := by
  intro vm0 hZ hCH hO hX m meth c A g ig mk a X hg hsize hdg hW hn hp
  obtain ⟨v, B, X', hS, hg', ⟨Lc, q, r1, r2, r3, rest⟩, st⟩ := hK vm0 hZ hCH hO hX m meth c A g ig mk a X hg hsize hdg hW hn ⟨hp.1, hp.2.1, Nat.le_trans (Nat.add_le_add_left h1 _) hp.2.2.1, Nat.le_trans (Nat.add_le_add_left h2 _) hp.2.2.2⟩
  exact ⟨v, ⟨B.U, B.locs, A.cells + kc', A.slots + ks'⟩, ⟨X'.admits, X'.cas, X'.clock, X'.frames, X'.room, X'.hears, X'.method, X'.code, X'.here, X'.tail, X'.warmed, X'.limits, X'.bytes, X'.same.mono (by rw [r2]; exact Nat.add_le_add_left h1 _) (by rw [r3]; exact Nat.add_le_add_left h2 _)⟩, hS, hg', ⟨Lc, q, r1, rfl, rfl, rest⟩, st⟩
theorem Call.weaken {y : MethodName} {as' : Array Value} {Q Q' : Option Value → Heap → Prop} {len wt kc ks : Nat} (hK : Call nw EL n0 Z xs l R p e below s args y len wt as' h kc ks Q) (hq : ∀ v h', Q v h' → Q' v h') : Call nw EL n0 Z xs l R p e below s args y len wt as' h kc ks Q' := by
  intro vm0 hZ hCH hO hX m meth c A g ig mk a X hg hsize hdg hW hn hp
  obtain ⟨v, B, X', hS, hg', ⟨Lc, q, rest⟩, st⟩ := hK vm0 hZ hCH hO hX m meth c A g ig mk a X hg hsize hdg hW hn hp
  exact ⟨v, B, X', hS, hg', ⟨Lc, hq _ _ q, rest⟩, st⟩
theorem Wk.after {vm0 k0 locs} (X : Stand p l e R (s.setVm vm0) m args below meth c T locs cells slots) (eT : T.heap = h) (hS : s.Since vm0 k0) (hk : k0 ≤ h.size) (hn : nw → s.WarmedH vm0) (hZ : Z.Warmed39 vm0) (ho : vm0.findClass own = some m.cls) (hE : EW Z a0 EL) (hC : CHr Z EL s.vm s.heap vm0 h) (hF : Fr n0 locs) (hO : Old Z n0 h) (hxs : ∀ x ∈ xs, n0 ≤ x ∧ x < h.size ∧ Safe Z EL vm0 h x)
    (rest : p.tables.exec = Jvm.exec ∧ c.code = cd ∧ c.maxLocals = ml ∧ meth.sig.returnType = ret ∧ meth.locks = false ∧ meth.name = nm) {B : Pt} {kc ks : Nat} {Lc : List Loc} (X' : Stand p l e R ((s.setVm vm0).setVm B.U.vm) m args below meth c B.U B.locs B.cells B.slots) (hS2 : (s.setVm vm0).Since B.U.vm B.U.heap.size) (hg : T.heap.size ≤ B.U.heap.size)
    (r1 : B.locs = locs ++ Lc) (r2 : B.cells = cells + kc) (r3 : B.slots = slots + ks) (hF' : Fr n0 Lc) (hO' : Old Z n0 B.U.heap) (hC' : CHr Z EL vm0 h B.U.vm B.U.heap) (hn' : nw → (s.setVm vm0).WarmedH B.U.vm) :
    Wk nw EL n0 Z a0 own nm cd ml ret p l e R s m args below meth c B.U B.U.heap xs (cells + kc) (slots + ks) := by
  rw [r1, r2, r3] at X'
  exact ⟨B.U.vm, B.U.heap.size, _, X', rfl, hS.trans hS2 (Nat.le_trans hk (eT ▸ hg)), Nat.le_refl _, fun q => State.WarmedH.trans (t := s.setVm vm0) (hn q) (hn' q), State.Warmed39.trans (t := s.setVm vm0) hZ hS2.1, (hS2.1.alike.findClass _ _).trans ho, hE, hC.trans hC', hF.app hF', hO', fun x hm => ⟨(hxs x hm).1, Nat.lt_of_lt_of_le (hxs x hm).2.1 (eT ▸ hg), hC'.safe (hxs x hm).2.1 (hxs x hm).2.2⟩, rest⟩
/-- invokestatic by a contract -/
theorem Go.invs (W : Wk nw EL n0 Z a0 own nm cd ml ret p l e R s m args below meth c T h xs cells slots) {y : MethodName} {bytes : ByteArray} {maxL ix wt kc ks cells' slots' : Nat} {rt : Option FieldType} {argsL rest st0 : List Value} {Q : Option Value → Heap → Prop} {ps : List FieldType} {pr : Option FieldType} (hK : Call nw EL n0 Z xs l R p e below s args y 3 wt argsL.toArray h kc ks Q) (d : Dec cd pc (.invokestatic ix) 3 n)
    (w1 : (Cond.methodLink own ix y).before a0 Z = true) (w2 : (Cond.static y).before a0 Z = true) (w3 : (Cond.initialized y.cls).before a0 Z = true) (w4 : (Cond.code y bytes maxL rt).before a0 Z = true) (hy : y.cls ≠ "java/lang/invoke/MethodHandle" ∧ y.cls ≠ "java/lang/invoke/VarHandle")
    (hpd : parseMethodDescriptor y.desc = some ⟨ps, pr⟩) (hlen : argsL.length = ps.length) (hsz : L.size = ml) (hst : st0 = argsL.reverse ++ rest) (hw : (rest.map fun v => v.category).sum ≤ wt) (hc : cells + kc = cells') (hs : slots + ks = slots') (hc' : cells' ≤ R.cells) (hs' : slots' ≤ R.slots)
    (k : ∀ T' h' v, Wk nw EL n0 Z a0 own nm cd ml ret p l e R s m args below meth c T' h' xs cells' slots' → h.size ≤ h'.size → Q v h' → Go p e below F T' (mkF m n L (v.toList ++ rest))) : Go p e below F T (mkF m pc L st0) := by
  obtain ⟨vm0, k0, locs, X, eT, hS, hk, hn, hZ, ho, hE, hC, hF, hO, hxs, hx, hby, hml, rst⟩ := W
  obtain ⟨d, rfl⟩ := d
  subst hc hs hst
  obtain ⟨v, vm₁, B, hW1, X', hS2, hg, ⟨Lc, hq, r1, r2, r3, hF', hO', hC', hn'⟩, st⟩ := callSS X hx ho (mv hZ w1) (mv hZ w2) (mv hZ w3) (mv hZ w4) hy (hK vm0 hZ hC.1 hO hxs) (g := mkF m pc L (argsL.reverse ++ rest)) rfl (hsz.trans hml.symm) (argsL := argsL) (rest := rest) (lenOf hpd hlen) rfl (by show 2 * 0 + _ ≤ _; omega) (hb hby d) (fun _ _ => ⟨rfl, eT, hc', hs'⟩)
  exact Go.run st (k B.U B.U.heap v (Wk.after X eT hS hk hn hZ ho hE hC hF hO hxs ⟨hx, hby, hml, rst⟩ X' hS2 hg r1 r2 r3 hF' hO' hC' hn') (eT ▸ hg) hq)
/-- a constructor by a contract -/
theorem Go.invi (W : Wk nw EL n0 Z a0 own nm cd ml ret p l e R s m args below meth c T h xs cells slots) {y : MethodName} {bytes : ByteArray} {maxL ix wt kc ks cells' slots' : Nat} {argsL rest st0 : List Value} {b : Addr} {Q : Heap → Prop} {ps : List FieldType} {pr : Option FieldType} (hK : Call nw EL n0 Z xs l R p e below s args y 3 wt (.ref b :: argsL).toArray h kc ks (RN Q)) (d : Dec cd pc (.invokespecial ix) 3 n)
    (hy1 : y.name = "<init>") (w1 : (Cond.methodLink own ix y).before a0 Z = true) (w2 : (Cond.instanceMethod y).before a0 Z = true) (w4 : (Cond.code y bytes maxL none).before a0 Z = true) (hy : y.cls ≠ "java/lang/invoke/MethodHandle" ∧ y.cls ≠ "java/lang/invoke/VarHandle")
    (hpd : parseMethodDescriptor y.desc = some ⟨ps, pr⟩) (hlen : argsL.length = ps.length) (hsz : L.size = ml) (hst : st0 = argsL.reverse ++ .ref b :: rest) (hw : (rest.map fun v => v.category).sum ≤ wt) (hc : cells + kc = cells') (hs : slots + ks = slots') (hc' : cells' ≤ R.cells) (hs' : slots' ≤ R.slots)
    (k : ∀ T' h', Wk nw EL n0 Z a0 own nm cd ml ret p l e R s m args below meth c T' h' xs cells' slots' → h.size ≤ h'.size → Q h' → Go p e below F T' (mkF m n L rest)) : Go p e below F T (mkF m pc L st0) := by
  obtain ⟨vm0, k0, locs, X, eT, hS, hk, hn, hZ, ho, hE, hC, hF, hO, hxs, hx, hby, hml, rst⟩ := W
  obtain ⟨d, rfl⟩ := d
  subst hc hs hst
  obtain ⟨v, vm₁, B, hW1, X', hS2, hg, ⟨Lc, hq, r1, r2, r3, hF', hO', hC', hn'⟩, st⟩ := X.specialBackS hx hy1 ho (mv hZ w1) (mv hZ w2) (mv hZ w4) hy (hK vm0 hZ hC.1 hO hxs) (g := mkF m pc L (argsL.reverse ++ .ref b :: rest)) rfl (hsz.trans hml.symm) (Steps.refl _) (a := b) (argsL := argsL) (rest := rest) (lenOf hpd hlen) rfl (by show 2 * 0 + _ ≤ _; omega) (hb hby d) (fun _ _ => ⟨rfl, eT, hc', hs'⟩)
  obtain ⟨rfl, hq⟩ := hq
  exact Go.run st (k B.U B.U.heap (Wk.after X eT hS hk hn hZ ho hE hC hF hO hxs ⟨hx, hby, hml, rst⟩ X' hS2 hg r1 r2 r3 hF' hO' hC' hn') (eT ▸ hg) hq)
/-- invokevirtual by a contract -/
theorem Go.invv (W : Wk nw EL n0 Z a0 own nm cd ml ret p l e R s m args below meth c T h xs cells slots) {y z : MethodName} {C : String} {ix wt kc ks cells' slots' : Nat} {argsL rest st0 : List Value} {b : Addr} {Q : Option Value → Heap → Prop} {ps : List FieldType} {pr : Option FieldType} (hK : Call nw EL n0 Z xs l R p e below s args z 3 wt (.ref b :: argsL).toArray h kc ks Q) (d : Dec cd pc (.invokevirtual ix) 3 n)
    (w1 : (Cond.methodLink own ix y).before a0 Z = true) (w2 : (Cond.declares y).before a0 Z = true) (w3 : (Cond.selects C y z).before a0 Z = true) (w4 : (Cond.instanceMethod z).before a0 Z = true) (hy : y.cls ≠ "java/lang/invoke/MethodHandle" ∧ y.cls ≠ "java/lang/invoke/VarHandle") (E : Exa Z h b C)
    (hpd : parseMethodDescriptor y.desc = some ⟨ps, pr⟩) (hlen : argsL.length = ps.length) (hsz : L.size = ml) (hst : st0 = argsL.reverse ++ .ref b :: rest) (hw : (rest.map fun v => v.category).sum ≤ wt) (hc : cells + kc = cells') (hs : slots + ks = slots') (hc' : cells' ≤ R.cells) (hs' : slots' ≤ R.slots)
    (hnf : ∀ vm0, Z.Warmed39 vm0 → NotFace (s.setVm vm0) y)
    (k : ∀ T' h' v, Wk nw EL n0 Z a0 own nm cd ml ret p l e R s m args below meth c T' h' xs cells' slots' → h.size ≤ h'.size → Q v h' → Go p e below F T' (mkF m n L (v.toList ++ rest))) : Go p e below F T (mkF m pc L st0) := by
  obtain ⟨vm0, k0, locs, X, eT, hS, hk, hn, hZ, ho, hE, hC, hF, hO, hxs, hx, hby, hml, rst⟩ := W
  obtain ⟨d, rfl⟩ := d
  subst hc hs hst
  obtain ⟨cq, kq, qa, qb, qc⟩ := isOf (s := s.setVm vm0) hZ eT E
  obtain ⟨v, vm₁, B, hW1, X', hS2, hg, ⟨Lc, hq, r1, r2, r3, hF', hO', hC', hn'⟩, st⟩ := X.virtualBackS hx ho (mv hZ w1) (mv hZ w2) (hnf vm0 hZ) (mv hZ w3) (mv hZ w4) hy (hK vm0 hZ hC.1 hO hxs) qa qc (g := mkF m pc L (argsL.reverse ++ .ref b :: rest)) rfl (hsz.trans hml.symm) (Steps.refl _) (argsL := argsL) (rest := rest) (lenOf hpd hlen) rfl (by show 2 * 0 + _ ≤ _; omega) (hb hby d) (fun _ _ => ⟨rfl, eT, hc', hs'⟩)
  exact Go.run st (k B.U B.U.heap v (Wk.after X eT hS hk hn hZ ho hE hC hF hO hxs ⟨hx, hby, hml, rst⟩ X' hS2 hg r1 r2 r3 hF' hO' hC' hn') (eT ▸ hg) hq)

theorem Go.invs1 (W : Wk nw EL n0 Z a0 own nm cd ml ret p l e R s m args below meth c T h xs cells slots) {y : MethodName} {bytes : ByteArray} {maxL ix wt kc ks cells' slots' : Nat} {rt : Option FieldType} {argsL rest st0 : List Value} {Q : Value → Heap → Prop} {ps : List FieldType} {pr : Option FieldType} (hK : Call nw EL n0 Z xs l R p e below s args y 3 wt argsL.toArray h kc ks (RV Q)) (d : Dec cd pc (.invokestatic ix) 3 n)
    (w1 : (Cond.methodLink own ix y).before a0 Z = true) (w2 : (Cond.static y).before a0 Z = true) (w3 : (Cond.initialized y.cls).before a0 Z = true) (w4 : (Cond.code y bytes maxL rt).before a0 Z = true) (hy : y.cls ≠ "java/lang/invoke/MethodHandle" ∧ y.cls ≠ "java/lang/invoke/VarHandle")
    (hpd : parseMethodDescriptor y.desc = some ⟨ps, pr⟩) (hlen : argsL.length = ps.length) (hsz : L.size = ml) (hst : st0 = argsL.reverse ++ rest) (hw : (rest.map fun v => v.category).sum ≤ wt) (hc : cells + kc = cells') (hs : slots + ks = slots') (hc' : cells' ≤ R.cells) (hs' : slots' ≤ R.slots)
    (k : ∀ T' h' v, Wk nw EL n0 Z a0 own nm cd ml ret p l e R s m args below meth c T' h' xs cells' slots' → h.size ≤ h'.size → Q v h' → Go p e below F T' (mkF m n L (v :: rest))) : Go p e below F T (mkF m pc L st0) :=
  Go.invs W hK d w1 w2 w3 w4 hy hpd hlen hsz hst hw hc hs hc' hs' (fun T' h' v W' g q => by obtain ⟨w, rfl, q⟩ := q; exact k T' h' w W' g q)
theorem Go.invs0 (W : Wk nw EL n0 Z a0 own nm cd ml ret p l e R s m args below meth c T h xs cells slots) {y : MethodName} {bytes : ByteArray} {maxL ix wt kc ks cells' slots' : Nat} {rt : Option FieldType} {argsL rest st0 : List Value} {Q : Heap → Prop} {ps : List FieldType} {pr : Option FieldType} (hK : Call nw EL n0 Z xs l R p e below s args y 3 wt argsL.toArray h kc ks (RN Q)) (d : Dec cd pc (.invokestatic ix) 3 n)
    (w1 : (Cond.methodLink own ix y).before a0 Z = true) (w2 : (Cond.static y).before a0 Z = true) (w3 : (Cond.initialized y.cls).before a0 Z = true) (w4 : (Cond.code y bytes maxL rt).before a0 Z = true) (hy : y.cls ≠ "java/lang/invoke/MethodHandle" ∧ y.cls ≠ "java/lang/invoke/VarHandle")
    (hpd : parseMethodDescriptor y.desc = some ⟨ps, pr⟩) (hlen : argsL.length = ps.length) (hsz : L.size = ml) (hst : st0 = argsL.reverse ++ rest) (hw : (rest.map fun v => v.category).sum ≤ wt) (hc : cells + kc = cells') (hs : slots + ks = slots') (hc' : cells' ≤ R.cells) (hs' : slots' ≤ R.slots)
    (k : ∀ T' h', Wk nw EL n0 Z a0 own nm cd ml ret p l e R s m args below meth c T' h' xs cells' slots' → h.size ≤ h'.size → Q h' → Go p e below F T' (mkF m n L rest)) : Go p e below F T (mkF m pc L st0) :=
  Go.invs W hK d w1 w2 w3 w4 hy hpd hlen hsz hst hw hc hs hc' hs' (fun T' h' v W' g q => by obtain ⟨rfl, q⟩ := q; exact k T' h' W' g q)
theorem Go.invv1 (W : Wk nw EL n0 Z a0 own nm cd ml ret p l e R s m args below meth c T h xs cells slots) {y : MethodName} {C : String} {ix wt kc ks cells' slots' : Nat} {argsL rest st0 : List Value} {b : Addr} {Q : Value → Heap → Prop} {ps : List FieldType} {pr : Option FieldType} (hK : Call nw EL n0 Z xs l R p e below s args y 3 wt (.ref b :: argsL).toArray h kc ks (RV Q)) (d : Dec cd pc (.invokevirtual ix) 3 n)
    (w1 : (Cond.methodLink own ix y).before a0 Z = true) (w2 : (Cond.declares y).before a0 Z = true) (w3 : (Cond.selects C y y).before a0 Z = true) (w4 : (Cond.instanceMethod y).before a0 Z = true) (hy : y.cls ≠ "java/lang/invoke/MethodHandle" ∧ y.cls ≠ "java/lang/invoke/VarHandle") (E : Exa Z h b C)
    (hpd : parseMethodDescriptor y.desc = some ⟨ps, pr⟩) (hlen : argsL.length = ps.length) (hsz : L.size = ml) (hst : st0 = argsL.reverse ++ .ref b :: rest) (hw : (rest.map fun v => v.category).sum ≤ wt) (hc : cells + kc = cells') (hs : slots + ks = slots') (hc' : cells' ≤ R.cells) (hs' : slots' ≤ R.slots)
    (k : ∀ T' h' v, Wk nw EL n0 Z a0 own nm cd ml ret p l e R s m args below meth c T' h' xs cells' slots' → h.size ≤ h'.size → Q v h' → Go p e below F T' (mkF m n L (v :: rest))) : Go p e below F T (mkF m pc L st0) :=
  Go.invv W hK d w1 w2 w3 w4 hy E hpd hlen hsz hst hw hc hs hc' hs' (fun _ hZ => notFace_of_selects (args := #[]) (mvT hZ w3)) (fun T' h' v W' g q => by obtain ⟨w, rfl, q⟩ := q; exact k T' h' w W' g q)
theorem Go.invv0 (W : Wk nw EL n0 Z a0 own nm cd ml ret p l e R s m args below meth c T h xs cells slots) {y : MethodName} {C : String} {ix wt kc ks cells' slots' : Nat} {argsL rest st0 : List Value} {b : Addr} {Q : Heap → Prop} {ps : List FieldType} {pr : Option FieldType} (hK : Call nw EL n0 Z xs l R p e below s args y 3 wt (.ref b :: argsL).toArray h kc ks (RN Q)) (d : Dec cd pc (.invokevirtual ix) 3 n)
    (w1 : (Cond.methodLink own ix y).before a0 Z = true) (w2 : (Cond.declares y).before a0 Z = true) (w3 : (Cond.selects C y y).before a0 Z = true) (w4 : (Cond.instanceMethod y).before a0 Z = true) (hy : y.cls ≠ "java/lang/invoke/MethodHandle" ∧ y.cls ≠ "java/lang/invoke/VarHandle") (E : Exa Z h b C)
    (hpd : parseMethodDescriptor y.desc = some ⟨ps, pr⟩) (hlen : argsL.length = ps.length) (hsz : L.size = ml) (hst : st0 = argsL.reverse ++ .ref b :: rest) (hw : (rest.map fun v => v.category).sum ≤ wt) (hc : cells + kc = cells') (hs : slots + ks = slots') (hc' : cells' ≤ R.cells) (hs' : slots' ≤ R.slots)
    (k : ∀ T' h', Wk nw EL n0 Z a0 own nm cd ml ret p l e R s m args below meth c T' h' xs cells' slots' → h.size ≤ h'.size → Q h' → Go p e below F T' (mkF m n L rest)) : Go p e below F T (mkF m pc L st0) :=
  Go.invv W hK d w1 w2 w3 w4 hy E hpd hlen hsz hst hw hc hs hc' hs' (fun _ hZ => notFace_of_selects (args := #[]) (mvT hZ w3)) (fun T' h' v W' g q => by obtain ⟨rfl, q⟩ := q; exact k T' h' W' g q)
end Walk
section Strs
variable {Z : State} {h h' : Heap} {a : Addr} {cs : List Int32}
/-- a Latin-1 String and its chars -/
def Str (Z : State) (h : Heap) (a : Addr) (cs : List Int32) : Prop := Exa Z h a "java/lang/String" ∧ Fld Z h a "java/lang/String" "coder" "B" (.int 0) ∧ (∃ (b : Addr) (k : ClassId), Fld Z h a "java/lang/String" "value" "[B" (.ref b) ∧ Arv Z h b k .byte (Int32.ofNat cs.length) ((cs.map fun c => c.toInt8.toInt32).map Value.int) (.int 0)) ∧ (∀ c ∈ cs, ¬ c < 0 ∧ ¬ (255 : Int32) < c) ∧ cs.length ≤ 4000
theorem Str.exa (S : Str Z h a cs) : Exa Z h a "java/lang/String" := S.1
theorem Str.lt (S : Str Z h a cs) : a < h.size := S.1.lt
theorem Str.ext (S : Str Z h a cs) (E : Ext h h') : Str Z h' a cs := by
  obtain ⟨h1, h2, ⟨b, k, h3, h4⟩, r⟩ := S
  exact ⟨h1.ext E, h2.ext E, ⟨b, k, h3.ext E, h4.ext E⟩, r⟩
/-- over the writing of cells made since h0 -/
theorem ext_trans {h0 : Heap} (E : Ext h0 h) (E' : Ext h h') : Ext h0 h' := ⟨Nat.le_trans E.1 E'.1, fun x c q => E'.2 x c (E.2 x c q)⟩
theorem ext_refl (h : Heap) : Ext h h := ⟨Nat.le_refl _, fun _ _ q => q⟩
theorem ext_eq (e : h' = h) : Ext h h' := e ▸ ext_refl h
theorem ext_keep {h0 : Heap} {ws : List Addr} (E : Ext h0 h) (K : Keep h h' ws) (q : ∀ x ∈ ws, h0.size ≤ x) : Ext h0 h' :=
  ⟨Nat.le_trans E.1 K.1, fun x c r => K.2.1 x c (E.2 x c r) fun z => absurd (Array.getElem?_eq_some_iff.mp r).1 (Nat.not_lt.mpr (q x z))⟩
theorem keep_ext (E : Ext h h') : Keep h h' [] := (Keep.refl h []).ext E
/-- a String just made, not yet built -/
def NewS (Z : State) (h : Heap) (a : Addr) : Prop := Exa Z h a "java/lang/String" ∧ Fld Z h a "java/lang/String" "value" "[B" .null ∧ Fld Z h a "java/lang/String" "coder" "B" (.int 0)
theorem NewS.ext (S : NewS Z h a) (E : Ext h h') : NewS Z h' a := ⟨S.1.ext E, S.2.1.ext E, S.2.2.ext E⟩
theorem NewS.keep {ws : List Addr} (S : NewS Z h a) (K : Keep h h' ws) (q : a ∉ ws) : NewS Z h' a := ⟨S.1.keep K, S.2.1.keep K q, S.2.2.keep K q⟩
theorem nar_ok (x : Int32) : nar .char (x &&& 255) = x &&& 255 := i2c_mask x
theorem b255 (x : Int32) : ¬ (x &&& 255) < 0 ∧ ¬ (255 : Int32) < (x &&& 255) := by
  have t : ∀ k : Fin 256, ¬ (Int32.ofNat k.val) < 0 ∧ ¬ (255 : Int32) < (Int32.ofNat k.val) := by decide +kernel
  have h : (x &&& 255).toBitVec.toNat < 256 := by
    simp only [Int32.toBitVec_and, BitVec.toNat_and]
    exact Nat.lt_succ_of_le Nat.and_le_right
  have e : (x &&& 255) = Int32.ofNat (x &&& 255).toBitVec.toNat := by
    apply Int32.toBitVec_inj.mp
    show _ = BitVec.ofNat 32 _
    rw [BitVec.ofNat_toNat]; simp
  rw [e]
  exact t ⟨_, h⟩
theorem up_chars (cs : List Int32) (h : ∀ c ∈ cs, ¬ c < 0 ∧ ¬ (255 : Int32) < c) : ∀ c ∈ cs, ¬ c < 0 ∧ ¬ (65535 : Int32) < c := fun c hc => ⟨(h c hc).1, fun q => (h c hc).2 (by rw [Int32.lt_iff_toInt_lt] at q ⊢; have e1 : (65535 : Int32).toInt = 65535 := rfl; have e2 : (255 : Int32).toInt = 255 := rfl; omega)⟩
theorem all_nil {P : Int32 → Prop} : ∀ c ∈ ([] : List Int32), P c := fun _ q => nomatch q
theorem all_cons {P : Int32 → Prop} {x : Int32} {xs : List Int32} (h : P x) (r : ∀ c ∈ xs, P c) : ∀ c ∈ x :: xs, P c := fun c q => (List.mem_cons.mp q).elim (fun u => u ▸ h) (r c)
end Strs
section Ldc
variable {nw : Prop} {EL : List (String × Nat)} {n0 : Nat} {Z : State} {a0 : Array Value} {own nm : String} {cd : ByteArray} {ml : Nat} {ret : Option FieldType} {p : Program} {l : Launch} {e : Env} {R : Room} {s : State} {m : MethodId} {args : Array Value} {below : List Frame} {meth : Method} {c : Code} {T : State} {h : Heap} {xs : List Addr} {cells slots : Nat}
variable {F : State → Prop} {pc n : Nat} {L : Array Slot} {r : List Value}
/-- ldc of a String constant whose text is read -/
theorem Go.ldcS (W : Wk nw EL n0 Z a0 own nm cd ml ret p l e R s m args below meth c T h xs cells slots) {text : String} {ix nn cells' slots' : Nat} {cs : List Int32} (hnw : ¬ nw) (d : Dec cd pc (.ldc ix) 2 n) (w : (Cond.stringLink own ix text).before a0 Z = true) (wS : ∀ a ∈ Bundle.stringAtoms, a.before a0 Z = true) (hmem : (own, ix) ∈ EL)
    (ht : (∀ c ∈ text.toList, c.toNat < 256) ∧ text.toList.map (fun c => Value.int (Jvm.Lit.byteI c.toNat.toUInt16)) = ((cs.map fun c => c.toInt8.toInt32).map Value.int)) (hp : ∀ c ∈ cs, ¬ c < 0 ∧ ¬ (255 : Int32) < c) (hl4 : cs.length ≤ 4000) (hnn : 4 * text.toList.length ≤ nn) (hbig : nn ≤ 536870912) (hc : cells + 2 = cells') (hs : slots + (nn + 4) = slots') (hc' : cells' ≤ R.cells) (hs' : slots' ≤ R.slots)
    (k : ∀ T' h' a b kb, Wk nw EL n0 Z a0 own nm cd ml ret p l e R s m args below meth c T' h' xs cells' slots' → Ext h h' → Exa Z h' a "java/lang/String" → Fld Z h' a "java/lang/String" "coder" "B" (.int 0) → Fld Z h' a "java/lang/String" "value" "[B" (.ref b) → Arv Z h' b kb .byte (Int32.ofNat cs.length) ((cs.map fun c => c.toInt8.toInt32).map Value.int) (.int 0) → (∀ x ∈ xs, x ≠ a ∧ x ≠ b) → Str Z h' a cs → Go p e below F T' (mkF m n L (.ref a :: r))) : Go p e below F T (mkF m pc L r) := by
  obtain ⟨vm0, k0, locs, X, eT, hS, hk, hn, hZ, ho, hE, hC, hF, hO, hxs, hx, hby, rest⟩ := W
  obtain ⟨d, rfl⟩ := d
  subst hc hs
  have hz := in_of (i := 0) (k := cs.length + 1) rfl (by omega) (by omega)
  have hl : (Int32.ofNat cs.length).toNatClampNeg = ((cs.map fun c => c.toInt8.toInt32).map Value.int).length := by rw [clamp_nat (by omega)]; simp
  obtain ⟨a, T', h', k1, b, kb, X', e', E, hS', hk', hZ', ho', A1, A2, A3, A4, -, -, C1, -, hne, st⟩ := ldcCH X hx hZ ho w wS eT hS hk hE hmem hC.1 ht (by rw [Int32.lt_iff_toInt_lt, LawKit.toInt_of (n := Int32.ofNat cs.length) rfl (by omega)]; show ¬ (cs.length : Int) < 0; omega) hl (g := mkF m pc L r) rfl (hb hby d) hnn hbig hc' hs'
  have hX : ∀ x ∈ xs, n0 ≤ x ∧ x < h'.size ∧ Safe Z EL T'.vm h' x := fun x hm => ⟨(hxs x hm).1, Nat.lt_of_lt_of_le (hxs x hm).2.1 E.1, C1.safe (hxs x hm).2.1 (hxs x hm).2.2⟩
  exact Go.st st (k T' h' a b kb ⟨T'.vm, k1, locs, X', e', hS', hk', fun q => absurd q hnw, hZ', ho', hE, hC.trans C1, hF, hO.ext E, hX, hx, hby, rest⟩ E A1 A2 A3 A4 (fun x hm => hne x (hX x hm).2.2) ⟨A1, A2, ⟨b, kb, A3, A4⟩, hp, hl4⟩)
end Ldc
section Num
theorem toInt_nat {a : Nat} (ha : a < 2 ^ 31) : (Int32.ofNat a).toInt = (a : Int) := LawKit.toInt_of rfl ha
theorem lt_nat {a b : Nat} (ha : a < 2 ^ 31) (hb : b < 2 ^ 31) : Int32.ofNat a < Int32.ofNat b ↔ a < b := by
  rw [Int32.lt_iff_toInt_lt, toInt_nat ha, toInt_nat hb]; omega
theorem eq_nat {a b : Nat} (ha : a < 2 ^ 31) (hb : b < 2 ^ 31) : Int32.ofNat a = Int32.ofNat b ↔ a = b := by
  rw [← Int32.toInt_inj, toInt_nat ha, toInt_nat hb]; omega
theorem eq0_nat {a : Nat} (ha : a < 2 ^ 31) : Int32.ofNat a = 0 ↔ a = 0 := eq_nat (b := 0) ha (by decide)
theorem sub1_nat {a : Nat} (h0 : 0 < a) (ha : a < 2 ^ 31) : Int32.ofNat a - 1 = Int32.ofNat (a - 1) := by
  obtain ⟨b, rfl⟩ : ∃ b, a = b + 1 := ⟨a - 1, by omega⟩
  exact LawKit.dec_ofNat b
theorem add1_nat (a : Nat) : Int32.ofNat a + 1 = Int32.ofNat (a + 1) := (LawKit.inc_ofNat a).symm
/-- a nonnegative int is a number -/
theorem nat_of {x : Int32} (h : ¬ x < 0) : ∃ k : Nat, k < 2 ^ 31 ∧ x = Int32.ofNat k ∧ x.toInt = (k : Int) := by
  rw [Int32.lt_iff_toInt_lt] at h
  have e0 : (0 : Int32).toInt = 0 := rfl
  have hi := Int32.toInt_lt x
  refine ⟨x.toInt.toNat, by omega, ?_, by omega⟩
  rw [← Int32.toInt_inj, toInt_nat (by omega)]; omega
theorem and_nat (x m : Int32) {k : Nat} (hm : m = Int32.ofNat k) (hk : k < 2 ^ 31) : ∃ j : Nat, j ≤ k ∧ x &&& m = Int32.ofNat j := by
  subst hm
  refine ⟨(x &&& Int32.ofNat k).toBitVec.toNat, ?_, ?_⟩
  · simp only [Int32.toBitVec_and, BitVec.toNat_and]
    have : (Int32.ofNat k).toBitVec.toNat = k := by show (BitVec.ofNat 32 k).toNat = k; rw [BitVec.toNat_ofNat]; omega
    rw [this]; exact Nat.and_le_right
  · apply Int32.toBitVec_inj.mp
    show _ = BitVec.ofNat 32 _
    rw [BitVec.ofNat_toNat]; simp
theorem rem_nat {x : Int32} {q j : Nat} (hx : x = Int32.ofNat j) (hj : j < 2 ^ 31) (hq : q < 2 ^ 31) (h0 : 0 < q) : x % Int32.ofNat q = Int32.ofNat (j % q) := by
  subst hx
  have := Nat.mod_lt j h0
  rw [← Int32.toInt_inj, Int32.toInt_mod, toInt_nat hj, toInt_nat hq, toInt_nat (by omega), Int.tmod_eq_emod_of_nonneg (by omega)]
  omega
/-- (x & 0x7fffffff) % q -/
theorem mask_rem (x : Int32) {q : Nat} {y : Int32} (hy : y = Int32.ofNat q) (hq : q < 2 ^ 31) (h0 : 0 < q) : ∃ k : Nat, k < q ∧ (x &&& (2147483647 : Int32)) % y = Int32.ofNat k := by
  subst hy
  obtain ⟨j, hj, e⟩ := and_nat x (2147483647 : Int32) (k := 2147483647) rfl (by decide)
  exact ⟨j % q, Nat.mod_lt _ h0, rem_nat e (by omega) hq h0⟩
theorem not_lt_iff {x y : Int32} : ¬ x < y ↔ y ≤ x := Int32.not_lt
end Num
section Addrs
theorem ne_new {x y : Addr} {h : Heap} (l : x < h.size) (g : y = h.size) : x ≠ y := fun e => by subst e; rw [g] at l; exact Nat.lt_irrefl _ l
theorem nin1 {x y : Addr} {h : Heap} (l : x < h.size) (g : y = h.size) : x ∉ [y] := fun q => ne_new l g (List.mem_singleton.mp q)
theorem all1 {P : Addr → Prop} {y : Addr} (q : P y) : ∀ x ∈ [y], P x := fun x z => (List.mem_singleton.mp z) ▸ q
end Addrs
section Chars
theorem ch_cases {x : Int32} (h : ¬ x < 0 ∧ ¬ (255 : Int32) < x) : ∃ k : Nat, k < 256 ∧ x = Int32.ofNat k := by
  obtain ⟨k, hk, e, ei⟩ := nat_of h.1
  refine ⟨k, ?_, e⟩
  have h2 := h.2
  rw [Int32.lt_iff_toInt_lt, ei] at h2
  have : (255 : Int32).toInt = 255 := rfl
  omega
theorem nar_ch {x : Int32} (h : ¬ x < 0 ∧ ¬ (255 : Int32) < x) : nar .char x = x := by
  obtain ⟨k, hk, rfl⟩ := ch_cases h
  exact (by decide +kernel : ∀ k : Fin 256, nar .char (Int32.ofNat k.val) = Int32.ofNat k.val) ⟨k, hk⟩
theorem narrow_ch {x : Int32} (h : ¬ x < 0 ∧ ¬ (255 : Int32) < x) : narrow .char (.int x) = .int x := by
  show Value.int (nar .char x) = _
  rw [nar_ch h]
theorem i2c_ch {x : Int32} (h : ¬ x < 0 ∧ ¬ (255 : Int32) < x) : x.toUInt32.toUInt16.toUInt32.toInt32 = x := nar_ch h
end Chars
section More
variable {nw : Prop} {EL : List (String × Nat)} {n0 : Nat} {Z : State} {a0 : Array Value} {own nm : String} {cd : ByteArray} {ml : Nat} {ret : Option FieldType} {p : Program} {l : Launch} {e : Env} {R : Room} {s : State} {m : MethodId} {args : Array Value} {below : List Frame} {meth : Method} {c : Code} {T : State} {h : Heap} {xs : List Addr} {cells slots : Nat}
variable {F : State → Prop} {pc n : Nat} {L : Array Slot} {r : List Value}
/-- checkcast of an object of the class -/
theorem Go.cast (W : Wk nw EL n0 Z a0 own nm cd ml ret p l e R s m args below meth c T h xs cells slots) {K : String} {ix : Nat} {a : Addr} (d : Dec cd pc (.checkcast ix) 3 n) (w : (Cond.classLink own ix K).before a0 Z = true) (I : Ins Z h a K true)
    (k : ∀ T', Wk nw EL n0 Z a0 own nm cd ml ret p l e R s m args below meth c T' h xs cells slots → Go p e below F T' (mkF m n L (.ref a :: r))) : Go p e below F T (mkF m pc L (.ref a :: r)) := by
  obtain ⟨vm0, k0, locs, X, eT, hS, hk, hn, hZ, ho, hE, hC, hF, hO, hxs, hx, hby, rest⟩ := W
  obtain ⟨d, rfl⟩ := d
  obtain ⟨T', X', e', st⟩ := castY X hx hZ ho w eT I (g := mkF m pc L (.ref a :: r)) rfl rfl (hb hby d)
  exact Go.st st (k T' ⟨vm0, k0, locs, X', e', hS, hk, hn, hZ, ho, hE, hC, hF, hO, hxs, hx, hby, rest⟩)
/-- instanceof: yes -/
theorem Go.instY (W : Wk nw EL n0 Z a0 own nm cd ml ret p l e R s m args below meth c T h xs cells slots) {K : String} {ix : Nat} {a : Addr} (d : Dec cd pc (.instanceof ix) 3 n) (w : (Cond.classLink own ix K).before a0 Z = true) (I : Ins Z h a K true)
    (k : ∀ T', Wk nw EL n0 Z a0 own nm cd ml ret p l e R s m args below meth c T' h xs cells slots → Go p e below F T' (mkF m n L (.int 1 :: r))) : Go p e below F T (mkF m pc L (.ref a :: r)) := by
  obtain ⟨vm0, k0, locs, X, eT, hS, hk, hn, hZ, ho, hE, hC, hF, hO, hxs, hx, hby, rest⟩ := W
  obtain ⟨d, rfl⟩ := d
  obtain ⟨T', X', e', st⟩ := RoadKit.instY X hx hZ ho w eT I (g := mkF m pc L (.ref a :: r)) rfl rfl (hb hby d)
  exact Go.st st (k T' ⟨vm0, k0, locs, X', e', hS, hk, hn, hZ, ho, hE, hC, hF, hO, hxs, hx, hby, rest⟩)
/-- if_acmpne of two references -/
theorem Go.acne (C : Cx p below m c cd T) {x y : Value} {o : Int} {q : Nat} (d : Dec cd pc (.if_acmp .ne o) 3 n) (hx : x.isRef = true) (hy : y.isRef = true) (ho : 0 ≤ (pc : Int) + o) (hp : ((pc : Int) + o).toNat = q)
    (k1 : ¬ x = y → Go p e below F T (mkF m q L r)) (k2 : x = y → Go p e below F T (mkF m n L r)) : Go p e below F T (mkF m pc L (y :: x :: r)) := by
  obtain ⟨d, rfl⟩ := d
  by_cases hc : x = y
  · obtain ⟨t, st, f⟩ := k2 hc; exact ⟨t, XT.acmpNo C.1 C.2.1 rfl (hb C.2.2 d) rfl hx hy (by simp [XT.acmp, hc]) st, f⟩
  · obtain ⟨t, st, f⟩ := k1 hc; exact ⟨t, XT.acmpYes C.1 C.2.1 rfl (pc0 := pc) rfl (hb C.2.2 d) rfl hx hy (by simp [XT.acmp, hc]) ho hp st, f⟩
theorem Go.aceq (C : Cx p below m c cd T) {x y : Value} {o : Int} {q : Nat} (d : Dec cd pc (.if_acmp .eq o) 3 n) (hx : x.isRef = true) (hy : y.isRef = true) (ho : 0 ≤ (pc : Int) + o) (hp : ((pc : Int) + o).toNat = q)
    (k1 : x = y → Go p e below F T (mkF m q L r)) (k2 : ¬ x = y → Go p e below F T (mkF m n L r)) : Go p e below F T (mkF m pc L (y :: x :: r)) := by
  obtain ⟨d, rfl⟩ := d
  by_cases hc : x = y
  · obtain ⟨t, st, f⟩ := k1 hc; exact ⟨t, XT.acmpYes C.1 C.2.1 rfl (pc0 := pc) rfl (hb C.2.2 d) rfl hx hy (by simp [XT.acmp, hc]) ho hp st, f⟩
  · obtain ⟨t, st, f⟩ := k2 hc; exact ⟨t, XT.acmpNo C.1 C.2.1 rfl (hb C.2.2 d) rfl hx hy (by simp [XT.acmp, hc]) st, f⟩
/-- an enum constant: the static, its class, its ordinal -/
theorem ord_of {C f d K : String} {k : Int32} (hx : (Cond.exactly (Term.static C f d) K).value args Z none Z [] = some true) (ho : (Cond.eq (Term.field (Term.static C f d) "java/lang/Enum" "ordinal" "I") (Term.int k)).value args Z none Z [] = some true)
    (h1 : (Cond.initialized C).before args Z = true) (h2 : (Cond.laysStatic C f d).before args Z = true) : ∃ a, Sta Z Z.heap C f d (.ref a) ∧ Exa Z Z.heap a K ∧ Fld Z Z.heap a "java/lang/Enum" "ordinal" "I" (.int k) := by
  obtain ⟨a, ea⟩ := exa_v hx
  obtain ⟨x, y, hx1, hy1, -⟩ := cmp_v (Or.inl ho)
  have hy2 : (Term.int k).eval args Z none [] Z = some (.int k) := rfl
  rw [hy2] at hy1; cases hy1
  have q : Z.fieldOf? a "java/lang/Enum" "ordinal" "I" = some x := (fld_at ea).symm.trans hx1
  have : x = .int k := by
    cases x with
    | int i => rw [gotT (Cond.eq_ints hx1 hy2) ho]
    | _ => simp [Cond.value, hx1, hy2] at ho
  subst this
  exact ⟨a, Sta.start ea (Or.inr ⟨h1, h2⟩), Exa.start ea hx, Fld.start q⟩
theorem ref_cat {v : Value} (h : v = .null ∨ ∃ a, v = .ref a) : v.isRef = true ∧ v.category = 1 := by rcases h with rfl | ⟨a, rfl⟩ <;> exact ⟨rfl, rfl⟩
end More
section Inst
variable {nw : Prop} {EL : List (String × Nat)} {n0 : Nat} {Z : State} {a0 : Array Value} {own nm : String} {cd : ByteArray} {ml : Nat} {ret : Option FieldType} {p : Program} {l : Launch} {e : Env} {R : Room} {s : State} {m : MethodId} {args : Array Value} {below : List Frame} {meth : Method} {c : Code} {T : State} {h : Heap} {xs : List Addr} {cells slots : Nat}
variable {F : State → Prop} {pc n : Nat} {L : Array Slot} {r : List Value}
/-- a class right beneath the root is no subclass of another one -/
theorem no_sub {C O K : String} {kk : Nat} (w1 : (Cond.superclass C O).before a0 Z = true) (w2 : (Cond.noSuperclass O).before a0 Z = true) (wk : (Cond.instantiable K kk).before a0 Z = true) (h1 : C ≠ K) (h2 : O ≠ K) : ∃ c t, Z.vm.findClass C = some c ∧ Z.vm.findClass K = some t ∧ Z.vm.assignable c t = false := by
  obtain ⟨o, ko, o1, o2, o3, -, -⟩ := Cond.noSuperclass_spec w2
  obtain ⟨c, c0⟩ := found_sup w1
  obtain ⟨p, k, kp, p1, p2, p3, p4, p5, -, p7⟩ := Cond.superclass_spec c0 w1
  cases o1.symm.trans p1
  obtain ⟨t, kt, t1, t2, t3, t4, -⟩ := Cond.instantiable_spec wk
  have n1 := ids_ne c0 t1 h1
  have n2 := ids_ne o1 t1 h2
  have t5 : kt.isInterface = false := by cases q : kt.isInterface <;> simp_all
  have sub : ∀ fuel, Z.vm.isSubclassAux fuel c t = false := fun fuel => by
    rcases fuel with _ | _ | f
    · rfl
    · simp [Vm.isSubclassAux, n1, p2, p4]
    · simp [Vm.isSubclassAux, n1, n2, p2, p4, o2, o3]
  refine ⟨c, t, c0, t1, ?_⟩
  show Z.vm.assignableAux (255 + 1) c t = false
  simp [Vm.assignableAux, n1, p2, t2, p5, t3, t5, Vm.isSubclass, sub]
theorem Go.instN (W : Wk nw EL n0 Z a0 own nm cd ml ret p l e R s m args below meth c T h xs cells slots) {K C : String} {ix : Nat} {a : Addr} (d : Dec cd pc (.instanceof ix) 3 n) (w : (Cond.classLink own ix K).before a0 Z = true) (E : Exa Z h a C) (I : ∃ c t, Z.vm.findClass C = some c ∧ Z.vm.findClass K = some t ∧ Z.vm.assignable c t = false)
    (k : ∀ T', Wk nw EL n0 Z a0 own nm cd ml ret p l e R s m args below meth c T' h xs cells slots → Go p e below F T' (mkF m n L (.int 0 :: r))) : Go p e below F T (mkF m pc L (.ref a :: r)) := by
  obtain ⟨vm0, k0, locs, X, eT, hS, hk, hn, hZ, ho, hE, hC, hF, hO, hxs, hx, hby, rest⟩ := W
  obtain ⟨d, rfl⟩ := d
  obtain ⟨T', X', e', st⟩ := RoadKit.instNo X hx hZ ho w eT E I (g := mkF m pc L (.ref a :: r)) rfl rfl (hb hby d)
  exact Go.st st (k T' ⟨vm0, k0, locs, X', e', hS, hk, hn, hZ, ho, hE, hC, hF, hO, hxs, hx, hby, rest⟩)
theorem Go.inst0 (W : Wk nw EL n0 Z a0 own nm cd ml ret p l e R s m args below meth c T h xs cells slots) {ix : Nat} (d : Dec cd pc (.instanceof ix) 3 n)
    (k : Go p e below F T (mkF m n L (.int 0 :: r))) : Go p e below F T (mkF m pc L (.null :: r)) := by
  obtain ⟨vm0, k0, locs, X, eT, hS, hk, hn, hZ, ho, hE, hC, hF, hO, hxs, hx, hby, rest⟩ := W
  obtain ⟨d, rfl⟩ := d
  exact Go.st (fun t st => X.instanceofNull hx (g := mkF m pc L (.null :: r)) rfl rfl (hb hby d) t st) k
end Inst
section Objs
variable {nw : Prop} {EL : List (String × Nat)} {n0 : Nat} {Z : State} {a0 : Array Value} {own nm : String} {cd : ByteArray} {ml : Nat} {ret : Option FieldType} {p : Program} {l : Launch} {e : Env} {R : Room} {s : State} {m : MethodId} {args : Array Value} {below : List Frame} {meth : Method} {c : Code} {T : State} {h h' : Heap} {xs : List Addr} {cells slots : Nat}
variable {F : State → Prop} {pc n : Nat} {L : Array Slot} {r : List Value}
/-- an empty array of references -/
def OArr (Z : State) (h : Heap) (a : Addr) (C ad : String) : Prop := ∃ cl : Cell, Arr Z h a cl (.object C) ∧ Exa Z h a ad ∧ cl.slots.size = 0
theorem OArr.exa {a : Addr} {C ad : String} (O : OArr Z h a C ad) : Exa Z h a ad := by obtain ⟨_, -, E, -⟩ := O; exact E
theorem OArr.lt {a : Addr} {C ad : String} (O : OArr Z h a C ad) : a < h.size := O.exa.lt
theorem OArr.ext {a : Addr} {C ad : String} (O : OArr Z h a C ad) (E : Ext h h') : OArr Z h' a C ad := by obtain ⟨cl, A, X, S⟩ := O; exact ⟨cl, A.ext E, X.ext E, S⟩
theorem OArr.keep {a : Addr} {C ad : String} {ws : List Addr} (O : OArr Z h a C ad) (K : Keep h h' ws) (q : a ∉ ws) : OArr Z h' a C ad := by obtain ⟨cl, A, X, S⟩ := O; exact ⟨cl, ⟨K.2.1 a cl A.1 q, A.2⟩, X.keep K, S⟩
theorem Go.newobjs0 (W : Wk nw EL n0 Z a0 own nm cd ml ret p l e R s m args below meth c T h xs cells slots) {C ad : String} {ix cells' : Nat} (d : Dec cd pc (.anewarray ix) 3 n) (w1 : (Cond.classLink own ix C).before a0 Z = true) (w2 : (Cond.arrayOver (.object C)).before a0 Z = true)
    (hc : cells + 1 = cells') (hc' : cells' ≤ R.cells) (hs' : slots + 0 ≤ R.slots) (had : "[" ++ (FieldType.object C).toString = ad)
    (k : ∀ T' h' a, a = h.size → Wk nw EL n0 Z a0 own nm cd ml ret p l e R s m args below meth c T' h' (a :: xs) cells' slots → Ext h h' → OArr Z h' a C ad → Go p e below F T' (mkF m n L (.ref a :: r))) : Go p e below F T (mkF m pc L (.int 0 :: r)) := by
  obtain ⟨vm0, k0, locs, X, eT, hS, hk, hn, hZ, ho, hE, hC, hF, hO, hxs, hx, hby, rest⟩ := W
  obtain ⟨d, rfl⟩ := d
  subst hc
  obtain ⟨T', h', cA, X', e', E, A, A2, -, st⟩ := newRE X hx hZ ho w1 w2 eT (g := mkF m pc L (.int 0 :: r)) rfl (hb hby d) rfl (by decide) (cap := 0) (by decide) (by decide) hc' hs' had
  have C1 := CHr.ext E hC.1
  refine Go.st st (k T' h' h.size rfl ⟨vm0, k0, locs, X', e', hS, Nat.le_trans hk E.1, hn, hZ, ho, hE, hC.trans C1, hF, hO.ext E, fun x hm => ?_, hx, hby, rest⟩ E ⟨_, A, A2, by rw [sz_new]; rfl⟩)
  rcases List.mem_cons.mp hm with rfl | hm
  · exact ⟨old_le hO, A.lt, Safe.ext E hC.1 (Safe.new (Nat.le_refl _))⟩
  · exact ⟨(hxs x hm).1, Nat.lt_of_lt_of_le (hxs x hm).2.1 E.1, C1.safe (hxs x hm).2.1 (hxs x hm).2.2⟩
theorem Go.clone0 (W : Wk nw EL n0 Z a0 own nm cd ml ret p l e R s m args below meth c T h xs cells slots) {C ad : String} {ix wt cells' : Nat} {b : Addr} (d : Dec cd pc (.invokevirtual ix) 3 n)
    (w1 : (Cond.methodLink own ix ⟨ad, "clone", "()Ljava/lang/Object;"⟩).before a0 Z = true) (w2 : (Cond.sameMethod ad "java/lang/Object" "clone" "()Ljava/lang/Object;").before a0 Z = true) (w3 : (Cond.native ⟨"java/lang/Object", "clone", "()Ljava/lang/Object;"⟩).before a0 Z = true)
    (w4 : (Cond.instanceMethod ⟨"java/lang/Object", "clone", "()Ljava/lang/Object;"⟩).before a0 Z = true) (w5 : (Cond.selects ad ⟨ad, "clone", "()Ljava/lang/Object;"⟩ ⟨"java/lang/Object", "clone", "()Ljava/lang/Object;"⟩).before a0 Z = true) (w6 : (Cond.castable ad "java/lang/Cloneable").before a0 Z = true)
    (O : OArr Z h b C ad) (hsz : L.size = ml) (hf : 1 ≤ R.frames) (hw : (r.map fun v => v.category).sum ≤ wt) (hl : wt + 14 ≤ R.locals) (hc : cells + 1 = cells') (hc' : cells' ≤ R.cells) (hs' : slots + 0 ≤ R.slots)
    (k : ∀ T' h' a, a = h.size → Wk nw EL n0 Z a0 own nm cd ml ret p l e R s m args below meth c T' h' (a :: xs) cells' slots → Ext h h' → OArr Z h' a C ad → Go p e below F T' (mkF m n L (.ref a :: r))) : Go p e below F T (mkF m pc L (.ref b :: r)) := by
  obtain ⟨vm0, k0, locs, X, eT, hS, hk, hn, hZ, ho, hE, hC, hF, hO, hxs, hx, hby, hml, rest⟩ := W
  obtain ⟨d, rfl⟩ := d
  subst hc
  obtain ⟨cl, A, A2, S⟩ := O
  obtain ⟨T', h', X', e', E, B, B2, st⟩ := cloneA X hx hZ ho w1 w2 w3 w4 w5 w6 eT A A2 (fun i v hv => by have := (Array.getElem?_eq_some_iff.mp hv).1; omega) (g := mkF m pc L (.ref b :: r)) rfl (hsz.trans hml.symm) rfl (hb hby d) hf (W := wt) (cap := 0) (by show 2 * 0 + _ ≤ _; omega) hl (by omega) hc' hs'
  have C1 := CHr.ext E hC.1
  refine Go.st st (k T' h' h.size rfl ⟨vm0, k0, locs, X', e', hS, Nat.le_trans hk E.1, hn, hZ, ho, hE, hC.trans C1, hF, hO.ext E, fun x hm => ?_, hx, hby, hml, rest⟩ E ⟨_, B, B2, by simpa [cloneOf] using S⟩)
  rcases List.mem_cons.mp hm with rfl | hm
  · exact ⟨old_le hO, B.lt, Safe.ext E hC.1 (Safe.new (Nat.le_refl _))⟩
  · exact ⟨(hxs x hm).1, Nat.lt_of_lt_of_le (hxs x hm).2.1 E.1, C1.safe (hxs x hm).2.1 (hxs x hm).2.2⟩
theorem Go.alen0 (W : Wk nw EL n0 Z a0 own nm cd ml ret p l e R s m args below meth c T h xs cells slots) {a : Addr} {C ad : String} (d : Dec cd pc .arraylength 1 n) (O : OArr Z h a C ad)
    (k : Go p e below F T (mkF m n L (.int 0 :: r))) : Go p e below F T (mkF m pc L (.ref a :: r)) := by
  obtain ⟨vm0, k0, locs, X, eT, hS, hk, hn, hZ, ho, hE, hC, hF, hO, hxs, hx, hby, rest⟩ := W
  obtain ⟨d, rfl⟩ := d
  obtain ⟨cl, A, A2, S⟩ := O
  exact Go.st (fun t st => X.arraylength hx (by rw [eT]; exact A.1) (State.isArrayOf_alike hZ.alike A.2.1) (g := mkF m pc L (.ref a :: r)) rfl rfl (hb hby d) t (by rw [S]; exact st)) k
end Objs
section More2
variable {nw : Prop} {EL : List (String × Nat)} {n0 : Nat} {Z : State} {a0 : Array Value} {own nm : String} {cd : ByteArray} {ml : Nat} {ret : Option FieldType} {p : Program} {l : Launch} {e : Env} {R : Room} {s : State} {m : MethodId} {args : Array Value} {below : List Frame} {meth : Method} {c : Code} {T : State} {h h' : Heap} {xs : List Addr} {cells slots : Nat}
variable {F : State → Prop} {pc n : Nat} {L : Array Slot} {r : List Value}
theorem Go.ldcF (W : Wk nw EL n0 Z a0 own nm cd ml ret p l e R s m args below meth c T h xs cells slots) {ix : Nat} {v : UInt32} (d : Dec cd pc (.ldc ix) 2 n) (w : (Cond.constantFloat own ix v).before a0 Z = true)
    (k : Go p e below F T (mkF m n L (.float v :: r))) : Go p e below F T (mkF m pc L r) := by
  obtain ⟨vm0, k0, locs, X, eT, hS, hk, hn, hZ, ho, hE, hC, hF, hO, hxs, hx, hby, rest⟩ := W
  obtain ⟨d, rfl⟩ := d
  exact Go.st (fun t st => X.ldcFloatC hx ho (mv hZ w) (g := mkF m pc L r) rfl (hb hby d) t st) k
/-- invokevirtual of an inherited method, nothing returned -/
theorem Go.invvU0 (W : Wk nw EL n0 Z a0 own nm cd ml ret p l e R s m args below meth c T h xs cells slots) {x y : MethodName} {C owner : String} {ix wt kc ks cells' slots' : Nat} {argsL rest st0 : List Value} {b : Addr} {Q : Heap → Prop} {ps : List FieldType} {pr : Option FieldType} (hK : Call nw EL n0 Z xs l R p e below s args y 3 wt (.ref b :: argsL).toArray h kc ks (RN Q)) (d : Dec cd pc (.invokevirtual ix) 3 n)
    (w1 : (Cond.methodLink own ix x).before a0 Z = true) (w2 : (Cond.sameMethod x.cls owner x.name x.desc).before a0 Z = true) (w3 : (Cond.declares ⟨owner, x.name, x.desc⟩).before a0 Z = true) (how : owner ≠ "java/lang/invoke/MethodHandle" ∧ owner ≠ "java/lang/invoke/VarHandle") (w4 : (Cond.selects C x y).before a0 Z = true) (w5 : (Cond.instanceMethod y).before a0 Z = true) (E : Exa Z h b C)
    (hpd : parseMethodDescriptor x.desc = some ⟨ps, pr⟩) (hlen : argsL.length = ps.length) (hsz : L.size = ml) (hst : st0 = argsL.reverse ++ .ref b :: rest) (hw : (rest.map fun v => v.category).sum ≤ wt) (hc : cells + kc = cells') (hs : slots + ks = slots') (hc' : cells' ≤ R.cells) (hs' : slots' ≤ R.slots)
    (k : ∀ T' h', Wk nw EL n0 Z a0 own nm cd ml ret p l e R s m args below meth c T' h' xs cells' slots' → h.size ≤ h'.size → Q h' → Go p e below F T' (mkF m n L rest)) : Go p e below F T (mkF m pc L st0) := by
  obtain ⟨vm0, k0, locs, X, eT, hS, hk, hn, hZ, ho, hE, hC, hF, hO, hxs, hx, hby, hml, rst⟩ := W
  obtain ⟨d, rfl⟩ := d
  subst hc hs hst
  obtain ⟨cq, kq, qa, qb, qc⟩ := isOf (s := s.setVm vm0) hZ eT E
  obtain ⟨v, vm₁, B, hW1, X', hS2, hg, ⟨Lc, hq, r1, r2, r3, hF', hO', hC', hn'⟩, st⟩ := X.virtualBackUpS hx ho (mv hZ w1) (mv hZ w2) (mv hZ w3) how (mv hZ w4) (mv hZ w5) (hK vm0 hZ hC.1 hO hxs) qa qc (g := mkF m pc L (argsL.reverse ++ .ref b :: rest)) rfl (hsz.trans hml.symm) (Steps.refl _) (argsL := argsL) (rest := rest) (lenOf hpd hlen) rfl (by show 2 * 0 + _ ≤ _; omega) (hb hby d) (fun _ _ => ⟨rfl, eT, hc', hs'⟩)
  obtain ⟨rfl, hq⟩ := hq
  exact Go.run st (k B.U B.U.heap (Wk.after X eT hS hk hn hZ ho hE hC hF hO hxs ⟨hx, hby, hml, rst⟩ X' hS2 hg r1 r2 r3 hF' hO' hC' hn') (eT ▸ hg) hq)
/-- a static that holds a reference -/
theorem sta_ref {C f d : String} {t : FieldType} (hf : Fit Z) (h1 : (Cond.initialized C).before args Z = true) (h2 : (Cond.laysStatic C f d).before args Z = true) (ht : parseFieldDescriptor d = some t) (hr : t.isReference = true) : ∃ v : Value, Sta Z Z.heap C f d v ∧ (v = .null ∨ ∃ r, v = .ref r) := by
  obtain ⟨v, ev, fv⟩ := static_fit hf h2 ht
  exact ⟨v, Sta.start ev (Or.inr ⟨h1, h2⟩), ref_cases (fit_R fv hr)⟩
end More2
section Jdk
variable {nw : Prop} {EL : List (String × Nat)} {n0 : Nat} {Z : State} {a0 : Array Value} {own nm : String} {cd : ByteArray} {ml : Nat} {ret : Option FieldType} {p : Program} {l : Launch} {e : Env} {R : Room} {s : State} {m : MethodId} {args : Array Value} {below : List Frame} {meth : Method} {c : Code} {T : State} {h h' : Heap} {xs : List Addr} {cells slots : Nat}
variable {F : State → Prop} {pc n : Nat} {L : Array Slot} {r : List Value}
/-- the low byte of a char, as a byte[] holds it -/
def by8 (x : Int32) : Int32 := x.toInt8.toInt32
/-- a byte[] that holds chars of 0 to 255 -/
def BArr (Z : State) (h : Heap) (a : Addr) (ka : ClassId) (cs : List Int32) : Prop := Arv Z h a ka .byte (Int32.ofNat cs.length) ((cs.map fun c => c.toInt8.toInt32).map Value.int) (.int 0)
/-- baload -/
theorem Go.baload (W : Wk nw EL n0 Z a0 own nm cd ml ret p l e R s m args below meth c T h xs cells slots) {a : Addr} {ka : ClassId} {cs : List Int32} {j v : Int32} (i : Nat) (d : Dec cd pc .baload 1 n) (A : BArr Z h a ka cs) (hj : j = Int32.ofNat i) (hi : i < cs.length) (hlen : cs.length < 2 ^ 31) (hv : by8 (cs.getD i 0) = v)
    (k : Go p e below F T (mkF m n L (.int v :: r))) : Go p e below F T (mkF m pc L (.int j :: .ref a :: r)) := by
  obtain ⟨vm0, k0, locs, X, eT, hS, hk, hn, hZ, ho, hE, hC, hF, hO, hxs, hx, hby, rest⟩ := W
  obtain ⟨d, rfl⟩ := d
  subst hj
  obtain ⟨cl, A1, q1, S1, M1, H1, U1⟩ := id A
  have hin := inb_of S1 (in_of rfl hi hlen)
  have hat := Has.at (v := .int v) H1 hin (by rw [clamp_nat (by omega)]; unfold by8 at hv; simp only [List.getD_eq_getElem?_getD, List.getElem?_map] at hv ⊢; rw [List.getElem?_eq_getElem hi] at hv ⊢; simpa using hv)
  exact Go.st (fun t st => X.baloadBytes hx (by rw [eT]; exact A1.1) (State.isArrayOf_alike hZ.alike A1.2.1) A1.2.2 hin hat (g := mkF m pc L (.int (Int32.ofNat i) :: .ref a :: r)) rfl rfl (hb hby d) t st) k
theorem by8_inj {x y : Int32} (hx : ¬ x < 0 ∧ ¬ (255 : Int32) < x) (hy : ¬ y < 0 ∧ ¬ (255 : Int32) < y) : by8 x = by8 y ↔ x = y := by
  have t : ∀ k : Fin 256, by8 (Int32.ofNat k.val) &&& 255 = Int32.ofNat k.val := by decide +kernel
  constructor
  · intro q
    obtain ⟨i, hi, rfl⟩ := ch_cases hx
    obtain ⟨j, hj, rfl⟩ := ch_cases hy
    rw [← t ⟨i, hi⟩, ← t ⟨j, hj⟩]
    show by8 (Int32.ofNat i) &&& 255 = by8 (Int32.ofNat j) &&& 255
    rw [q]
  · rintro rfl; rfl
theorem getD_ch {cs : List Int32} (h : ∀ c ∈ cs, ¬ c < 0 ∧ ¬ (255 : Int32) < c) {i : Nat} (hi : i < cs.length) : ¬ cs.getD i 0 < 0 ∧ ¬ (255 : Int32) < cs.getD i 0 := by
  rw [List.getD_eq_getElem?_getD, List.getElem?_eq_getElem hi]
  exact h _ (List.getElem_mem _)
/-- a boolean answer -/
def Bo (P : Prop) (z : Int32) : Prop := (z = 1 ∧ P) ∨ (z = 0 ∧ ¬ P)
theorem Bo.yes {P : Prop} {z : Int32} (B : Bo P z) (q : ¬ z = 0) : P := B.elim (fun u => u.2) (fun u => absurd u.1 q)
theorem Bo.no {P : Prop} {z : Int32} (B : Bo P z) (q : z = 0) : ¬ P := B.elim (fun u => absurd (u.1.symm.trans q) (by decide)) (fun u => u.2)
theorem Bo.tt {P : Prop} (q : P) : Bo P 1 := Or.inl ⟨rfl, q⟩
theorem Bo.ff {P : Prop} (q : ¬ P) : Bo P 0 := Or.inr ⟨rfl, q⟩
theorem Bo.one {P : Prop} {z : Int32} (B : Bo P z) (q : P) : z = 1 := B.elim (fun u => u.1) (fun u => absurd q u.2)
theorem Bo.zero {P : Prop} {z : Int32} (B : Bo P z) (q : ¬ P) : z = 0 := B.elim (fun u => absurd u.2 q) (fun u => u.1)
theorem Bo.iff {P Q : Prop} {z : Int32} (B : Bo P z) (q : P ↔ Q) : Bo Q z := B.elim (fun u => Or.inl ⟨u.1, q.mp u.2⟩) (fun u => Or.inr ⟨u.1, fun w => u.2 (q.mpr w)⟩)
theorem Bo.same {P : Prop} {z z' : Int32} (B : Bo P z) (B' : Bo P z') : z = z' := by
  rcases B with ⟨rfl, q⟩ | ⟨rfl, q⟩
  · exact (B'.one q).symm
  · exact (B'.zero q).symm
theorem Bo.nar {P : Prop} {z : Int32} (B : Bo P z) : narrow .boolean (.int z) = .int z := by
  rcases B with ⟨rfl, -⟩ | ⟨rfl, -⟩ <;> rfl
theorem add_nat (a b : Nat) : Int32.ofNat a + Int32.ofNat b = Int32.ofNat (a + b) := (Int32.ofNat_add a b).symm
theorem sub_int {a b : Nat} (ha : a < 2 ^ 31) (hb : b < 2 ^ 31) : (Int32.ofNat a - Int32.ofNat b).toInt = (a : Int) - b := by
  rw [Int32.toInt_sub, toInt_nat ha, toInt_nat hb]
  exact Int.bmod_eq_of_le (by omega) (by omega)
theorem sub_nat {a b : Nat} (ha : a < 2 ^ 31) (hb : b ≤ a) : Int32.ofNat a - Int32.ofNat b = Int32.ofNat (a - b) := by
  rw [← Int32.toInt_inj, sub_int ha (by omega), toInt_nat (by omega)]; omega
/-- ds stands in cs at k -/
def Sw (cs : List Int32) (k : Nat) (ds : List Int32) : Prop := k + ds.length ≤ cs.length ∧ ∀ i, i < ds.length → cs.getD (k + i) 0 = ds.getD i 0
theorem BArr.of_new {a : Addr} {ka : ClassId} {z : Int32} (A : Arv Z h a ka .byte z [] (.int 0)) {cs : List Int32} {k : Nat} (hc : cs = List.replicate k 0) (hz : z = Int32.ofNat k) : BArr Z h a ka cs := by
  subst hc hz
  unfold BArr
  rw [List.length_replicate, List.map_replicate, List.map_replicate]
  exact Arv.pad A (fun i => by simpa using pad_rep [] (.int 0) k i)
theorem BArr.lt {a : Addr} {ka : ClassId} {cs : List Int32} (A : BArr Z h a ka cs) : a < h.size := Arv.lt A
theorem BArr.ext {a : Addr} {ka : ClassId} {cs : List Int32} (A : BArr Z h a ka cs) (E : Ext h h') : BArr Z h' a ka cs := Arv.ext A E
theorem BArr.keep {a : Addr} {ka : ClassId} {cs : List Int32} {ws : List Addr} (A : BArr Z h a ka cs) (K : Keep h h' ws) (q : a ∉ ws) : BArr Z h' a ka cs := Arv.keep A K q
theorem by8_nar (x : Int32) : nar .byte (x.toInt8.toInt32) = by8 x := by simp [nar, by8]
/-- bastore into a byte[] of the walk's own -/
theorem Go.bastore (W : Wk nw EL n0 Z a0 own nm cd ml ret p l e R s m args below meth c T h xs cells slots) {a : Addr} {ka : ClassId} {cs : List Int32} {j x x' : Int32} (i : Nat) (d : Dec cd pc .bastore 1 n) (A : BArr Z h a ka cs) (ha : a ∈ xs) (hj : j = Int32.ofNat i) (hi : i < cs.length) (hlen : cs.length < 2 ^ 31) (hx' : nar .byte x = by8 x')
    (k : ∀ T' h', Wk nw EL n0 Z a0 own nm cd ml ret p l e R s m args below meth c T' h' xs cells slots → Keep h h' [a] → BArr Z h' a ka (cs.set i x') → Go p e below F T' (mkF m n L r)) : Go p e below F T (mkF m pc L (.int x :: .int j :: .ref a :: r)) := by
  obtain ⟨vm0, k0, locs, X, eT, hS, hk, hn, hZ, ho, hE, hC, hF, hO, hxs, hx, hby, rest⟩ := W
  obtain ⟨d, rfl⟩ := d
  subst hj
  obtain ⟨cl, A1, q1, S1, M1, H1, U1⟩ := id A
  have hin := inb_of S1 (in_of rfl hi hlen)
  obtain ⟨T', h', X', e', Wr', st⟩ := stB X hx hZ eT A1 hin (g := mkF m pc L (.int x :: .int (Int32.ofNat i) :: .ref a :: r)) rfl rfl (hb hby d)
  have q := hxs a ha
  have C1 := CHr.wr Wr' q.2.2 hC.1
  have sz : h'.size = h.size := Wr'.size
  have A2 : BArr Z h' a ka (cs.set i x') := by
    have B := Arv.set A1 q1 S1 M1 H1 U1 (fits_nar_byte x) Wr' i (clamp_nat (by omega)) (by simpa using hi)
    unfold BArr
    rw [List.length_set, List.map_set, List.map_set]
    rw [show x.toInt8.toInt32 = x'.toInt8.toInt32 from hx'] at B
    exact B
  exact Go.st st (k T' h' ⟨vm0, k0, _, X', e', hS, by rw [sz]; exact hk, hn, hZ, ho, hE, hC.trans C1, Fr.snoc X' hF q.1, hO.wr Wr' q.1, fun x hm => ⟨(hxs x hm).1, by rw [sz]; exact (hxs x hm).2.1, C1.safe (hxs x hm).2.1 (hxs x hm).2.2⟩, hx, hby, rest⟩ (Keep.of_wr Wr') A2)
theorem getD_take (cs : List Int32) (n i : Nat) : (cs.take n).getD i 0 = if i < n then cs.getD i 0 else 0 := by
  simp only [List.getD_eq_getElem?_getD, List.getElem?_take]
  split <;> rfl
theorem getD_set (cs : List Int32) (i j : Nat) (x : Int32) (hi : i < cs.length) : (cs.set i x).getD j 0 = if i = j then x else cs.getD j 0 := by
  simp only [List.getD_eq_getElem?_getD, List.getElem?_set]
  by_cases q : i = j
  · subst q; rw [if_pos rfl]; simp [hi]
  · rw [if_neg q]; simp [q]
theorem take_ch {cs : List Int32} (h : ∀ c ∈ cs, ¬ c < 0 ∧ ¬ (255 : Int32) < c) (n : Nat) : ∀ c ∈ cs.take n, ¬ c < 0 ∧ ¬ (255 : Int32) < c := fun c q => h c (List.mem_of_mem_take q)
end Jdk
section ObjArr
variable {nw : Prop} {EL : List (String × Nat)} {n0 : Nat} {Z : State} {a0 : Array Value} {own nm : String} {cd : ByteArray} {ml : Nat} {ret : Option FieldType} {p : Program} {l : Launch} {e : Env} {R : Room} {s : State} {m : MethodId} {args : Array Value} {below : List Frame} {meth : Method} {c : Code} {T : State} {h h' : Heap} {xs : List Addr} {cells slots : Nat}
variable {F : State → Prop} {pc n : Nat} {L : Array Slot} {r : List Value}
/-- an array of references, its elements -/
def OAr (Z : State) (h : Heap) (a : Addr) (C ad : String) (vs : List Value) : Prop := ∃ cl : Cell, Arr Z h a cl (.object C) ∧ Exa Z h a ad ∧ cl.slots = vs.toArray ∧ ∀ v ∈ vs, v.isRef = true
theorem OAr.exa {a : Addr} {C ad : String} {vs : List Value} (O : OAr Z h a C ad vs) : Exa Z h a ad := by obtain ⟨_, -, E, -⟩ := O; exact E
theorem OAr.lt {a : Addr} {C ad : String} {vs : List Value} (O : OAr Z h a C ad vs) : a < h.size := O.exa.lt
theorem OAr.ext {a : Addr} {C ad : String} {vs : List Value} (O : OAr Z h a C ad vs) (E : Ext h h') : OAr Z h' a C ad vs := by obtain ⟨cl, A, X, S⟩ := O; exact ⟨cl, A.ext E, X.ext E, S⟩
theorem OAr.keep {a : Addr} {C ad : String} {vs : List Value} {ws : List Addr} (O : OAr Z h a C ad vs) (K : Keep h h' ws) (q : a ∉ ws) : OAr Z h' a C ad vs := by obtain ⟨cl, A, X, S⟩ := O; exact ⟨cl, ⟨K.2.1 a cl A.1 q, A.2⟩, X.keep K, S⟩
theorem fits_ref {v : Value} {C : String} (h : v.isRef = true) : fits (.object C) v = true := by cases v <;> first | rfl | cases h
theorem Go.cloneN (W : Wk nw EL n0 Z a0 own nm cd ml ret p l e R s m args below meth c T h xs cells slots) {C ad : String} {vs : List Value} {ix wt cells' slots' : Nat} {b : Addr} (d : Dec cd pc (.invokevirtual ix) 3 n)
    (w1 : (Cond.methodLink own ix ⟨ad, "clone", "()Ljava/lang/Object;"⟩).before a0 Z = true) (w2 : (Cond.sameMethod ad "java/lang/Object" "clone" "()Ljava/lang/Object;").before a0 Z = true) (w3 : (Cond.native ⟨"java/lang/Object", "clone", "()Ljava/lang/Object;"⟩).before a0 Z = true)
    (w4 : (Cond.instanceMethod ⟨"java/lang/Object", "clone", "()Ljava/lang/Object;"⟩).before a0 Z = true) (w5 : (Cond.selects ad ⟨ad, "clone", "()Ljava/lang/Object;"⟩ ⟨"java/lang/Object", "clone", "()Ljava/lang/Object;"⟩).before a0 Z = true) (w6 : (Cond.castable ad "java/lang/Cloneable").before a0 Z = true)
    (O : OAr Z h b C ad vs) (hsz : L.size = ml) (hf : 1 ≤ R.frames) (hw : (r.map fun v => v.category).sum ≤ wt) (hl : wt + 14 ≤ R.locals) (hc : cells + 1 = cells') (hs : slots + vs.length = slots') (hc' : cells' ≤ R.cells) (hs' : slots' ≤ R.slots)
    (k : ∀ T' h' a, a = h.size → Wk nw EL n0 Z a0 own nm cd ml ret p l e R s m args below meth c T' h' (a :: xs) cells' slots' → Ext h h' → OAr Z h' a C ad vs → Go p e below F T' (mkF m n L (.ref a :: r))) : Go p e below F T (mkF m pc L (.ref b :: r)) := by
  obtain ⟨vm0, k0, locs, X, eT, hS, hk, hn, hZ, ho, hE, hC, hF, hO, hxs, hx, hby, hml, rest⟩ := W
  obtain ⟨d, rfl⟩ := d
  subst hc hs
  obtain ⟨cl, A, A2, S, hv⟩ := O
  obtain ⟨T', h', X', e', E, B, B2, st⟩ := cloneA X hx hZ ho w1 w2 w3 w4 w5 w6 eT A A2 (fitC_of A fun i hi v hq => fits_ref (hv v (by rw [S] at hq; exact List.mem_of_getElem? (by simpa using hq)))) (g := mkF m pc L (.ref b :: r)) rfl (hsz.trans hml.symm) rfl (hb hby d) hf (W := wt) (cap := vs.length) (by show 2 * 0 + _ ≤ _; omega) hl (by rw [S]; simp) hc' hs'
  have C1 := CHr.ext E hC.1
  refine Go.st st (k T' h' h.size rfl ⟨vm0, k0, locs, X', e', hS, Nat.le_trans hk E.1, hn, hZ, ho, hE, hC.trans C1, hF, hO.ext E, fun x hm => ?_, hx, hby, hml, rest⟩ E ⟨_, B, B2, S, hv⟩)
  rcases List.mem_cons.mp hm with rfl | hm
  · exact ⟨old_le hO, B.lt, Safe.ext E hC.1 (Safe.new (Nat.le_refl _))⟩
  · exact ⟨(hxs x hm).1, Nat.lt_of_lt_of_le (hxs x hm).2.1 E.1, C1.safe (hxs x hm).2.1 (hxs x hm).2.2⟩
theorem Go.alenN (W : Wk nw EL n0 Z a0 own nm cd ml ret p l e R s m args below meth c T h xs cells slots) {a : Addr} {C ad : String} {vs : List Value} {z : Int32} (d : Dec cd pc .arraylength 1 n) (O : OAr Z h a C ad vs) (hz : z = Int32.ofNat vs.length)
    (k : Go p e below F T (mkF m n L (.int z :: r))) : Go p e below F T (mkF m pc L (.ref a :: r)) := by
  obtain ⟨vm0, k0, locs, X, eT, hS, hk, hn, hZ, ho, hE, hC, hF, hO, hxs, hx, hby, rest⟩ := W
  obtain ⟨d, rfl⟩ := d
  obtain ⟨cl, A, A2, S, hv⟩ := O
  subst hz
  exact Go.st (fun t st => X.arraylength hx (by rw [eT]; exact A.1) (State.isArrayOf_alike hZ.alike A.2.1) (g := mkF m pc L (.ref a :: r)) rfl rfl (hb hby d) t (by rw [S]; simpa using st)) k
theorem Go.aaload (W : Wk nw EL n0 Z a0 own nm cd ml ret p l e R s m args below meth c T h xs cells slots) {a : Addr} {C ad : String} {vs : List Value} {j : Int32} {v : Value} (i : Nat) (d : Dec cd pc .aaload 1 n) (O : OAr Z h a C ad vs) (hj : j = Int32.ofNat i) (hi : i < 2 ^ 31) (hv : vs[i]? = some v)
    (k : Go p e below F T (mkF m n L (v :: r))) : Go p e below F T (mkF m pc L (.int j :: .ref a :: r)) := by
  obtain ⟨vm0, k0, locs, X, eT, hS, hk, hn, hZ, ho, hE, hC, hF, hO, hxs, hx, hby, rest⟩ := W
  obtain ⟨d, rfl⟩ := d
  subst hj
  obtain ⟨cl, A, A2, S, hr⟩ := O
  have hlt : i < vs.length := (List.getElem?_eq_some_iff.mp hv).1
  exact Go.st (fun t st => X.aaload hx (by rw [eT]; exact A.1) (State.isArrayOf_alike hZ.alike A.2.1) rfl A.2.2 (by rw [clamp_nat hi, S]; have := (in_of (i := i) (k := i + 1) rfl (Nat.lt_succ_self i)); rintro (q | q); rw [Int32.lt_iff_toInt_lt, toInt_nat hi] at q; have e0 : (0 : Int32).toInt = 0 := rfl; omega; simp at q; omega) (by rw [clamp_nat hi, S]; simpa using hv) (g := mkF m pc L (.int (Int32.ofNat i) :: .ref a :: r)) rfl rfl (hb hby d) t st) k
/-- a String of the start, read off the sheet's words -/
theorem eq_int_of {t : Term} {k : Int32} (h : (Cond.eq t (Term.int k)).value args Z none Z [] = some true) : t.eval args Z none [] Z = some (.int k) := by
  obtain ⟨x, y, hx1, hy1, -⟩ := cmp_v (Or.inl h)
  have hy2 : (Term.int k).eval args Z none [] Z = some (.int k) := rfl
  rw [hy2] at hy1; cases hy1
  cases x with
  | int i => rw [hx1, gotT (Cond.eq_ints hx1 hy2) h]
  | _ => simp [Cond.value, hx1, hy2] at h
theorem elem_slot {t : Term} {b : Addr} {cl : Cell} {i : Nat} {v : Value} (hb : t.eval args Z none [] Z = some (.ref b)) (hc : Z.heap[b]? = some cl) (hi : i < 2 ^ 31) (h : (Term.elem t (Term.int (Int32.ofNat i))).eval args Z none [] Z = some v) : cl.slots[i]? = some v := by
  have q := (elem_in h hb (Term.int_eval (Int32.ofNat i)) hc).2
  rwa [clamp_nat hi] at q
theorem str_of {t : Term} {cs : List Int32} {nn : Int32} (hx : (Cond.exactly t "java/lang/String").value args Z none Z [] = some true) (hc : (Cond.eq (Term.field t "java/lang/String" "coder" "B") (Term.int 0)).value args Z none Z [] = some true)
    (ha : (Cond.arrayOf (Term.field t "java/lang/String" "value" "[B") .byte).value args Z none Z [] = some true) (hl : (Cond.eq (Term.length (Term.field t "java/lang/String" "value" "[B")) (Term.int nn)).value args Z none Z [] = some true) (hnn : nn = Int32.ofNat cs.length) (h4 : cs.length ≤ 4000) (hp : ∀ c ∈ cs, ¬ c < 0 ∧ ¬ (255 : Int32) < c)
    (he : ∀ i, i < cs.length → (Cond.eq (Term.elem (Term.field t "java/lang/String" "value" "[B") (Term.int (Int32.ofNat i))) (Term.int (by8 (cs.getD i 0)))).value args Z none Z [] = some true) :
    ∃ r, t.eval args Z none [] Z = some (.ref r) ∧ Str Z Z.heap r cs := by
  subst hnn
  obtain ⟨r, er⟩ := exa_v hx
  have ec := eq_int_of hc
  rw [fld_at er] at ec
  obtain ⟨b, eb⟩ := arr_v ha
  obtain ⟨cl, A⟩ := Arr.start eb ha
  have el := eq_int_of hl
  obtain ⟨b', cl', eb', ec', hsz, ev⟩ := Jvm.Lib.length_spec el
  have eb2 := eb
  rw [fld_at er] at eb2
  cases eb.symm.trans eb'
  have hcl : cl' = cl := by
    have := A.1
    simp only [State.arrayAt?, Option.bind_eq_bind, Option.bind_eq_some_iff] at ec'
    obtain ⟨c1, h1, k1, -, h2⟩ := ec'
    rw [this] at h1
    cases h1
    split at h2
    · cases h2
    · split at h2
      · exact (Option.some.inj h2).symm
      · cases h2
  subst hcl
  have hsz2 : cl'.slots.size = cs.length := by
    have q := Value.int.inj ev
    have : (Int32.ofNat cs.length) = Int32.ofNat cl'.slots.size := q
    exact ((eq_nat (by omega) hsz).mp this).symm
  have hat : ∀ i, i < cs.length → cl'.slots[i]? = some (.int (by8 (cs.getD i 0))) := fun i hi => elem_slot eb A.1 (by omega) (eq_int_of (he i hi))
  have hgd : ∀ i, i < cs.length → ((cs.map fun c => c.toInt8.toInt32).map Value.int).getD i (.int 0) = .int (by8 (cs.getD i 0)) := fun i hi => by
    simp only [List.getD_eq_getElem?_getD, List.getElem?_map, by8]; rw [List.getElem?_eq_getElem hi]; rfl
  refine ⟨r, er, Exa.start er hx, Fld.start ec, ⟨b, cl'.cls, Fld.start eb2, cl', A, rfl, by rw [clamp_nat (by omega)]; exact hsz2, ?_, fun i hi => ?_, fun i hi => ?_⟩, hp, h4⟩
  · have := (in_of (i := 0) (k := cs.length + 1) rfl (by omega) (by omega))
    rw [Int32.lt_iff_toInt_lt, toInt_nat (by omega)]; show ¬ ((cs.length : Int) < 0); omega
  · rw [hgd i (by omega)]; exact hat i (by omega)
  · rw [hgd i (by omega)]; exact fits_nar_byte _
end ObjArr
end Jvm.OwK
/- laws to paste: Road.backV, Road.lenW, Road.chN, Road.eqW, Road.codOf (cut by pick.py; bodies as the Statement names them) -/
namespace Jvm.Pilot.@@N@@
namespace StrChars
open Jvm Sem ClassFile Op Lib Jvm.Stand Jvm.Free.XT Jvm.Free.ALB Jvm.Free.JM Jvm.Free
open Jvm.Lib.Cold (StaticIs)
/-- a char array whose places are chars -/
def Ch (a : Addr) (A : Cell) (U : State) : Prop := Arr .char a A U ∧ Typed .char A
theorem Ch.mv {a : Addr} {A : Cell} {U U' : State} (h : Ch a A U) (hal : U.vm.Alike U'.vm) (hh : U'.heap = U.heap) : Ch a A U' := ⟨h.1.mv hal hh, h.2⟩
theorem Ch.keep {a : Addr} {A : Cell} {U U' : State} (h : Ch a A U) (hal : U.vm.Alike U'.vm) (hk : U'.heap[a]? = some A) : Ch a A U' := ⟨h.1.keep hal hk, h.2⟩
/-- what place i of a char[]'s cell holds -/
def cv (A : Cell) (i : Nat) : Int32 := match A.slots[i]? with | some (.int x) => x | _ => 0
theorem Ch.get {a : Addr} {A : Cell} {U : State} (h : Ch a A U) {i : Nat} (hi : i < A.slots.size) : A.slots[i]? = some (.int (cv A i)) := by
  have e := Array.getElem?_eq_getElem hi
  have f := h.2 i _ e
  unfold cv; rw [e]
  generalize A.slots[i] = v at f
  cases v <;> simp [fits] at f ⊢
/-- the byte that i2b leaves of a char -/
def lo8 (x : Int32) : Int32 := x.toInt8.toInt32
theorem fits_lo8 (y : Int32) : fits .byte (.int (lo8 y)) = true := by
  have h1 := y.toInt8.le_toInt
  have h2 := y.toInt8.toInt_lt
  simp only [lo8, fits, Bool.and_eq_true, decide_eq_true_eq, Int32.le_iff_toInt_le, Int8.toInt_toInt32, show (-128 : Int32).toInt = -128 from by decide, show (127 : Int32).toInt = 127 from by decide]
  omega
/-- A' is A but that each place j of lo .. hi - 1 holds f j -/
def Laid (A A' : Cell) (lo hi : Nat) (f : Nat → Value) : Prop := A'.cls = A.cls ∧ A'.vm = A.vm ∧ A'.slots.size = A.slots.size ∧ ∀ i, A'.slots[i]? = if lo ≤ i ∧ i < hi then some (f i) else A.slots[i]?
theorem Laid.zero (A : Cell) (lo : Nat) (f : Nat → Value) : Laid A A lo (lo + 0) f := ⟨rfl, rfl, rfl, fun i => by rw [if_neg (by omega)]⟩
theorem Laid.step {A Ak : Cell} {lo k : Nat} {f : Nat → Value} {v : Value} (h : Laid A Ak lo k f) (hlo : lo ≤ k) (hk : k < Ak.slots.size) (hv : v = f k) : Laid A (Ak.setSlot k v) lo (k + 1) f := by
  refine ⟨h.1, h.2.1, by simpa [Cell.setSlot] using h.2.2.1, fun i => ?_⟩
  by_cases e : k = i
  · subst e; rw [Cell.slots_setSlot_self v hk, if_pos (by omega), hv]
  · rw [Cell.slots_setSlot_ne v e, h.2.2.2 i]
    by_cases q : lo ≤ i ∧ i < k
    · rw [if_pos q, if_pos (by omega)]
    · rw [if_neg q, if_neg (by omega)]
def U16 : String := "java/lang/StringUTF16"
namespace Cmp5
def yN : MethodName := ⟨"java/lang/StringUTF16", "compress", "([CI[BII)I"⟩
abbrev yB : ByteArray := jdk_52_method_21_code
theorem d0 : decode yB 0 = .ok (.iconst 0, 1) := by decide +kernel
theorem d1 : decode yB 1 = .ok (.istore 5, 2) := by decide +kernel
theorem d3 : decode yB 3 = .ok (.iload 5, 2) := by decide +kernel
theorem d5 : decode yB 5 = .ok (.iload 4, 2) := by decide +kernel
theorem d7 : decode yB 7 = .ok (.if_icmp (.ge) 37, 3) := by decide +kernel
theorem d10 : decode yB 10 = .ok (.aload_n 0, 1) := by decide +kernel
theorem d11 : decode yB 11 = .ok (.iload_n 1, 1) := by decide +kernel
theorem d12 : decode yB 12 = .ok (.caload, 1) := by decide +kernel
theorem d13 : decode yB 13 = .ok (.istore 6, 2) := by decide +kernel
theorem d15 : decode yB 15 = .ok (.iload 6, 2) := by decide +kernel
theorem d17 : decode yB 17 = .ok (.sipush 255, 3) := by decide +kernel
theorem d20 : decode yB 20 = .ok (.if_icmp (.le) 6, 3) := by decide +kernel
theorem d26 : decode yB 26 = .ok (.aload_n 2, 1) := by decide +kernel
theorem d27 : decode yB 27 = .ok (.iload_n 3, 1) := by decide +kernel
theorem d28 : decode yB 28 = .ok (.iload 6, 2) := by decide +kernel
theorem d30 : decode yB 30 = .ok (.i2b, 1) := by decide +kernel
theorem d31 : decode yB 31 = .ok (.bastore, 1) := by decide +kernel
theorem d32 : decode yB 32 = .ok (.iinc 1 1, 3) := by decide +kernel
theorem d35 : decode yB 35 = .ok (.iinc 3 1, 3) := by decide +kernel
theorem d38 : decode yB 38 = .ok (.iinc 5 1, 3) := by decide +kernel
theorem d41 : decode yB 41 = .ok (.goto (-38), 3) := by decide +kernel
theorem d44 : decode yB 44 = .ok (.iload 4, 2) := by decide +kernel
theorem d46 : decode yB 46 = .ok (.ireturn, 1) := by decide +kernel
def site : List Cond := []
def tab : Cond := tabOf yN yB 7 (some .int) site
def P (b : Addr) (A : Cell) (d : Addr) (B : Cell) (o q len : Nat) (args : Array Value) (s : State) : Prop := args = #[.ref b, .int (Int32.ofNat o), .ref d, .int (Int32.ofNat q), .int (Int32.ofNat len)] ∧ Ch b A s ∧ Arr .byte d B s ∧ b ≠ d ∧ o + len ≤ A.slots.size ∧ q + len ≤ B.slots.size ∧ ∀ i, i < len → ¬ 255 < cv A (o + i)
def E (b : Addr) (A : Cell) (d : Addr) (B : Cell) (o q len : Nat) (r : Option Value) (s u : State) : Prop := r = some (.int (Int32.ofNat len)) ∧ ∃ B', Put d B' s u ∧ Laid B B' q (q + len) (fun j => Value.int (lo8 (cv A (o + (j - q)))))
/-- no char of the range above 255: len; the places written hold each char's low byte -/
theorem law (l : Launch) (b : Addr) (A : Cell) (d : Addr) (B : Cell) (o q len : Nat) : Law l yN 5 5 0 0 yB 7 (some .int) site (P b A d B o q len) (E b A d B o q len) (copyLocs d q len) 0 0 := by
  refine Law.of_walk (plainFor_of_name (by decide +kernel)) (by decide +kernel) (by decide +kernel) (by decide) (fun _ _ h => by rw [h.1]; rfl) (fun _ U U' hal hh h => ⟨h.1, h.2.1.mv hal hh, h.2.2.1.mv hal hh, h.2.2.2⟩) (fun r U U' V V' h1 hal h2 h => ⟨h.1, h.2.elim fun B' q => ⟨B', q.1.mv h1 h2, q.2⟩⟩) ?_
  intro p e s m args below meth c s₁ X0 hexec hbytes hml hret hlk hnm hown hh0 W hP
  obtain ⟨rfl, hA, hB, hne, l1, l2, hp⟩ := hP
  have c1 : Steps p.tables e below (s₁.setTop (entryFrame m #[.ref b, .int (Int32.ofNat o), .ref d, .int (Int32.ofNat q), .int (Int32.ofNat len)] 7)) (s₁.setTop (mkF m 0 #[.val (.ref b), .val (.int (Int32.ofNat o)), .val (.ref d), .val (.int (Int32.ofNat q)), .val (.int (Int32.ofNat len)), .unset, .unset] [])) := entry rfl
  have hA0 := hA.1.mv X0.warmed.alike hh0
  have hB0 := hB.mv X0.warmed.alike hh0
  have a31 := hA.1.2.2.2
  have c2 : Steps p.tables e below (s₁.setTop (entryFrame m #[.ref b, .int (Int32.ofNat o), .ref d, .int (Int32.ofNat q), .int (Int32.ofNat len)] 7)) (s₁.setTop (mkF m 3 #[.val (.ref b), .val (.int (Int32.ofNat o)), .val (.ref d), .val (.int (Int32.ofNat q)), .val (.int (Int32.ofNat len)), .val (.int 0), .unset] [])) := c1.trans (by
    refine iconstV X0.here hexec rfl 0 (hb hbytes d0) (by decide) ?_
    refine XS.istore X0.here hexec rfl (hb hbytes d1) rfl rfl ?_
    exact Steps.refl _)
  have loop : ∀ (r i : Nat), i + r = len → ∀ (z : Slot), (z = .unset ∨ ∃ w, z = .val w ∧ w.category = 1) → ∀ (Tl : State) (Bk : Cell), Stand p l e { frames := 0, locals := 0, cells := 0, slots := 0 } s m #[.ref b, .int (Int32.ofNat o), .ref d, .int (Int32.ofNat q), .int (Int32.ofNat len)] below meth c Tl ([] ++ copyLocs d q i) 0 0 → Put d Bk s₁ Tl → Laid B Bk q (q + i) (fun j => Value.int (lo8 (cv A (o + (j - q))))) →
      Steps p.tables e below (s₁.setTop (entryFrame m #[.ref b, .int (Int32.ofNat o), .ref d, .int (Int32.ofNat q), .int (Int32.ofNat len)] 7)) (Tl.setTop (mkF m 3 #[.val (.ref b), .val (.int (Int32.ofNat (o + i))), .val (.ref d), .val (.int (Int32.ofNat (q + i))), .val (.int (Int32.ofNat len)), .val (.int (Int32.ofNat i)), z] [])) → ∃ (T' : State) (B' : Cell) (z' : Slot), Stand p l e { frames := 0, locals := 0, cells := 0, slots := 0 } s m #[.ref b, .int (Int32.ofNat o), .ref d, .int (Int32.ofNat q), .int (Int32.ofNat len)] below meth c T' ([] ++ copyLocs d q len) 0 0 ∧ Put d B' s₁ T' ∧ Laid B B' q (q + len) (fun j => Value.int (lo8 (cv A (o + (j - q))))) ∧
      Steps p.tables e below (s₁.setTop (entryFrame m #[.ref b, .int (Int32.ofNat o), .ref d, .int (Int32.ofNat q), .int (Int32.ofNat len)] 7)) (T'.setTop (mkF m 3 #[.val (.ref b), .val (.int (Int32.ofNat (o + len))), .val (.ref d), .val (.int (Int32.ofNat (q + len))), .val (.int (Int32.ofNat len)), .val (.int (Int32.ofNat len)), z'] [])) := by
    intro r
    induction r with
    | zero =>
      intro i hi z hz Tl Bk Xl pl fl cl
      have hil : i = len := by omega
      rw [hil] at Xl fl cl
      exact ⟨Tl, Bk, z, Xl, pl, fl, cl⟩
    | succ r ih =>
      intro i hi z hz Tl Bk Xl pl fl cl
      have all := X0.warmed.alike.symm.trans Xl.warmed.alike
      have hAl := hA0.keep all (pl.other hne hA0.1)
      have hBk := hB0.like all pl.1 fl.1 fl.2.1 fl.2.2.1
      have hlt : q + i < Bk.slots.size := by rw [fl.2.2.1]; omega
      have c3 : Steps p.tables e below (s₁.setTop (entryFrame m #[.ref b, .int (Int32.ofNat o), .ref d, .int (Int32.ofNat q), .int (Int32.ofNat len)] 7)) (Tl.setTop (mkF m 12 #[.val (.ref b), .val (.int (Int32.ofNat (o + i))), .val (.ref d), .val (.int (Int32.ofNat (q + i))), .val (.int (Int32.ofNat len)), .val (.int (Int32.ofNat i)), z] [.int (Int32.ofNat (o + i)), .ref b])) := cl.trans (by
        refine XS.iload Xl.here hexec rfl (hb hbytes d3) rfl ?_
        refine XS.iload Xl.here hexec rfl (hb hbytes d5) rfl ?_
        refine XS.icmpNo Xl.here hexec rfl (hb hbytes d7) rfl (ii_ge_f (lt32 (by omega) (by omega))) ?_
        refine XS.aloadN Xl.here hexec rfl (hb hbytes d10) rfl rfl ?_
        refine XS.iloadN Xl.here hexec rfl (hb hbytes d11) rfl ?_
        exact Steps.refl _)
      have c4 : Steps p.tables e below (s₁.setTop (entryFrame m #[.ref b, .int (Int32.ofNat o), .ref d, .int (Int32.ofNat q), .int (Int32.ofNat len)] 7)) (Tl.setTop (mkF m 13 #[.val (.ref b), .val (.int (Int32.ofNat (o + i))), .val (.ref d), .val (.int (Int32.ofNat (q + i))), .val (.int (Int32.ofNat len)), .val (.int (Int32.ofNat i)), z] [.int (cv A (o + i))])) := c3.trans (by
        refine Xl.aget hexec hAl rfl (hA.get (i := o + i) (by omega)) rfl rfl (hb hbytes d12) ?_
        exact Steps.refl _)
      have c5 : Steps p.tables e below (s₁.setTop (entryFrame m #[.ref b, .int (Int32.ofNat o), .ref d, .int (Int32.ofNat q), .int (Int32.ofNat len)] 7)) (Tl.setTop (mkF m 15 #[.val (.ref b), .val (.int (Int32.ofNat (o + i))), .val (.ref d), .val (.int (Int32.ofNat (q + i))), .val (.int (Int32.ofNat len)), .val (.int (Int32.ofNat i)), .val (.int (cv A (o + i)))] [])) := c4.trans (by
        refine XS.istoreS Xl.here hexec rfl (hb hbytes d13) rfl rfl hz ?_
        exact Steps.refl _)
      have c6 : Steps p.tables e below (s₁.setTop (entryFrame m #[.ref b, .int (Int32.ofNat o), .ref d, .int (Int32.ofNat q), .int (Int32.ofNat len)] 7)) (Tl.setTop (mkF m 31 #[.val (.ref b), .val (.int (Int32.ofNat (o + i))), .val (.ref d), .val (.int (Int32.ofNat (q + i))), .val (.int (Int32.ofNat len)), .val (.int (Int32.ofNat i)), .val (.int (cv A (o + i)))] [.int (lo8 (cv A (o + i))), .int (Int32.ofNat (q + i)), .ref d])) := c5.trans (by
        refine XS.iload Xl.here hexec rfl (hb hbytes d15) rfl ?_
        refine sipushV Xl.here hexec rfl 255 (hb hbytes d17) (by decide) ?_
        refine XS.icmpYes Xl.here hexec rfl (pc0 := 20) rfl (hb hbytes d20) rfl (ii_le_t (hp i (by omega))) (by decide) rfl ?_
        refine XS.aloadN Xl.here hexec rfl (hb hbytes d26) rfl rfl ?_
        refine XS.iloadN Xl.here hexec rfl (hb hbytes d27) rfl ?_
        refine XS.iload Xl.here hexec rfl (hb hbytes d28) rfl ?_
        refine i2b Xl.here hexec rfl (hb hbytes d30) rfl ?_
        exact Steps.refl _)
      obtain ⟨T7, X7, p7, st7⟩ := Xl.aput hexec hBk rfl hlt rfl (fits_lo8 (cv A (o + i))) (g := (mkF m 31 #[.val (.ref b), .val (.int (Int32.ofNat (o + i))), .val (.ref d), .val (.int (Int32.ofNat (q + i))), .val (.int (Int32.ofNat len)), .val (.int (Int32.ofNat i)), .val (.int (cv A (o + i)))] [.int (lo8 (cv A (o + i))), .int (Int32.ofNat (q + i)), .ref d])) rfl (rest := []) rfl (hb hbytes d31)
      have c8 : Steps p.tables e below (s₁.setTop (entryFrame m #[.ref b, .int (Int32.ofNat o), .ref d, .int (Int32.ofNat q), .int (Int32.ofNat len)] 7)) (T7.setTop (mkF m 32 #[.val (.ref b), .val (.int (Int32.ofNat (o + i))), .val (.ref d), .val (.int (Int32.ofNat (q + i))), .val (.int (Int32.ofNat len)), .val (.int (Int32.ofNat i)), .val (.int (cv A (o + i)))] [])) := c6.trans (st7 _ (Steps.refl _))
      have c9 : Steps p.tables e below (s₁.setTop (entryFrame m #[.ref b, .int (Int32.ofNat o), .ref d, .int (Int32.ofNat q), .int (Int32.ofNat len)] 7)) (T7.setTop (mkF m 3 #[.val (.ref b), .val (.int (Int32.ofNat (o + i) + 1)), .val (.ref d), .val (.int (Int32.ofNat (q + i) + 1)), .val (.int (Int32.ofNat len)), .val (.int (Int32.ofNat i + 1)), .val (.int (cv A (o + i)))] [])) := c8.trans (by
        refine iincV X7.here hexec rfl 1 (hb hbytes d32) (by decide) rfl rfl ?_
        refine iincV X7.here hexec rfl 1 (hb hbytes d35) (by decide) rfl rfl ?_
        refine iincV X7.here hexec rfl 1 (hb hbytes d38) (by decide) rfl rfl ?_
        refine XS.goto X7.here hexec rfl (pc0 := 41) rfl (hb hbytes d41) (by decide) rfl ?_
        exact Steps.refl _)
      have c10 : Steps p.tables e below (s₁.setTop (entryFrame m #[.ref b, .int (Int32.ofNat o), .ref d, .int (Int32.ofNat q), .int (Int32.ofNat len)] 7)) (T7.setTop (mkF m 3 #[.val (.ref b), .val (.int (Int32.ofNat (o + (i + 1)))), .val (.ref d), .val (.int (Int32.ofNat (q + (i + 1)))), .val (.int (Int32.ofNat len)), .val (.int (Int32.ofNat (i + 1))), .val (.int (cv A (o + i)))] [])) := by
        have := c9
        rw [succ32, succ32, succ32] at this
        exact this
      exact ih (i + 1) (by omega) _ (Or.inr ⟨_, rfl, rfl⟩) T7 _ (by rw [copyLocs_step, ← List.append_assoc]; exact X7) (pl.trans p7) (fl.step (by omega) hlt (by simp)) c10
  obtain ⟨T9, B9, z9, X9, p9, f9, g9⟩ := loop len 0 (by omega) .unset (Or.inl rfl) s₁ B (by simpa [copyLocs] using X0) ⟨hB0.1, fun _ _ => rfl, rfl⟩ (Laid.zero _ _ _) c2
  have c11 : Steps p.tables e below (s₁.setTop (entryFrame m #[.ref b, .int (Int32.ofNat o), .ref d, .int (Int32.ofNat q), .int (Int32.ofNat len)] 7)) (T9.setTop (mkF m 46 #[.val (.ref b), .val (.int (Int32.ofNat (o + len))), .val (.ref d), .val (.int (Int32.ofNat (q + len))), .val (.int (Int32.ofNat len)), .val (.int (Int32.ofNat len)), z9] [.int (Int32.ofNat len)])) := g9.trans (by
    refine XS.iload X9.here hexec rfl (hb hbytes d3) rfl ?_
    refine XS.iload X9.here hexec rfl (hb hbytes d5) rfl ?_
    refine XS.icmpYes X9.here hexec rfl (pc0 := 7) rfl (hb hbytes d7) rfl (ii_ge_t (nlt32 (by omega) (Nat.le_refl _))) (by decide) rfl ?_
    refine XS.iload X9.here hexec rfl (hb hbytes d44) rfl ?_
    exact Steps.refl _)
  exact ⟨T9, some (.int (Int32.ofNat len)), _, _, _, X9, by simp, rfl, rfl, (fun h => by cases h), ⟨rfl, B9, p9.from hh0, f9⟩, fun fs hl => c11.trans (X9.ireturnOut hexec hret rfl (Or.inl rfl) (hb hbytes d46) hl)⟩
end Cmp5
namespace Cmp3
def yN : MethodName := ⟨"java/lang/StringUTF16", "compress", "([CII)[B"⟩
abbrev yB : ByteArray := jdk_52_method_16_code
theorem d0 : decode yB 0 = .ok (.iload_n 2, 1) := by decide +kernel
theorem d1 : decode yB 1 = .ok (.newarray .byte, 2) := by decide +kernel
theorem d3 : decode yB 3 = .ok (.astore_n 3, 1) := by decide +kernel
theorem d4 : decode yB 4 = .ok (.aload_n 0, 1) := by decide +kernel
theorem d5 : decode yB 5 = .ok (.iload_n 1, 1) := by decide +kernel
theorem d6 : decode yB 6 = .ok (.aload_n 3, 1) := by decide +kernel
theorem d7 : decode yB 7 = .ok (.iconst 0, 1) := by decide +kernel
theorem d8 : decode yB 8 = .ok (.iload_n 2, 1) := by decide +kernel
theorem d9 : decode yB 9 = .ok (.invokestatic 115, 3) := by decide +kernel
theorem d12 : decode yB 12 = .ok (.istore 4, 2) := by decide +kernel
theorem d14 : decode yB 14 = .ok (.iload 4, 2) := by decide +kernel
theorem d16 : decode yB 16 = .ok (.iload_n 2, 1) := by decide +kernel
theorem d17 : decode yB 17 = .ok (.if_icmp (.eq) 40, 3) := by decide +kernel
theorem d57 : decode yB 57 = .ok (.aload_n 3, 1) := by decide +kernel
theorem d58 : decode yB 58 = .ok (.areturn, 1) := by decide +kernel
def site : List Cond := [.arrayClass .byte, Cmp5.tab] ++ staticW U16 115 Cmp5.yN
def tab : Cond := tabOf yN yB 6 (some (.array .byte)) site
def P (b : Addr) (A : Cell) (o len : Nat) (args : Array Value) (s : State) : Prop := args = #[.ref b, .int (Int32.ofNat o), .int (Int32.ofNat len)] ∧ Ch b A s ∧ o + len ≤ A.slots.size ∧ len ≤ 536870912 ∧ ∀ i, i < len → ¬ 255 < cv A (o + i)
def E (b : Addr) (A : Cell) (o len : Nat) (r : Option Value) (s u : State) : Prop := NewArr .byte "[B" len (fun j => .int (lo8 (cv A (o + j)))) r s u ∧ u.heap.size = s.heap.size + 1
/-- no char of the range above 255: a new byte[] of their low bytes -/
theorem law (l : Launch) (b : Addr) (A : Cell) (o len : Nat) : Law l yN 3 3 1 18 yB 6 (some (.array .byte)) site (P b A o len) (E b A o len) [] 1 len := by
  refine Law.of_walk (plainFor_of_name (by decide +kernel)) (by decide +kernel) (by decide +kernel) (by decide) (fun _ _ h => by rw [h.1]; rfl) (fun _ U U' hal hh h => ⟨h.1, h.2.1.mv hal hh, h.2.2⟩) (fun r U U' V V' h1 hal h2 h => ⟨NewArr.mv r U U' V V' h1 hal h2 h.1, by rw [h1, h2]; exact h.2⟩) ?_
  intro p e s m args below meth c s₁ X0 hexec hbytes hml hret hlk hnm hown hh0 W hP
  obtain ⟨rfl, hA, l1, l2, hp⟩ := hP
  have a31 := hA.1.2.2.2
  have c1 : Steps p.tables e below (s₁.setTop (entryFrame m #[.ref b, .int (Int32.ofNat o), .int (Int32.ofNat len)] 6)) (s₁.setTop (mkF m 0 #[.val (.ref b), .val (.int (Int32.ofNat o)), .val (.int (Int32.ofNat len)), .unset, .unset, .unset] [])) := entry rfl
  have c2 : Steps p.tables e below (s₁.setTop (entryFrame m #[.ref b, .int (Int32.ofNat o), .int (Int32.ofNat len)] 6)) (s₁.setTop (mkF m 1 #[.val (.ref b), .val (.int (Int32.ofNat o)), .val (.int (Int32.ofNat len)), .unset, .unset, .unset] [.int (Int32.ofNat len)])) := c1.trans (by
    refine XS.iloadN X0.here hexec rfl (hb hbytes d0) rfl ?_
    exact Steps.refl _)
  obtain ⟨T3, B3, X3, ba3, bs3, bv3, bh3, bf3, st3⟩ := X0.anew hexec (atype := .byte) (wk W (.arrayClass .byte)) rfl (by show len * 1 ≤ _; omega) (by omega) (g := (mkF m 1 #[.val (.ref b), .val (.int (Int32.ofNat o)), .val (.int (Int32.ofNat len)), .unset, .unset, .unset] [.int (Int32.ofNat len)])) rfl (hb hbytes d1) (rest := []) rfl (Nat.le_refl _) (by show 0 + len ≤ len; omega)
  rw [hh0] at ba3 st3
  have kp3 : XT.Kept s T3 := (XT.Kept.of_eq hh0).push bh3
  have hA3 := hA.keep X3.warmed.alike (kp3 _ _ hA.1.1)
  have hne : b ≠ s.heap.size := hA.1.ne
  have c4 : Steps p.tables e below (s₁.setTop (entryFrame m #[.ref b, .int (Int32.ofNat o), .int (Int32.ofNat len)] 6)) (T3.setTop (mkF m 3 #[.val (.ref b), .val (.int (Int32.ofNat o)), .val (.int (Int32.ofNat len)), .unset, .unset, .unset] [.ref s.heap.size])) := c2.trans (st3 _ (Steps.refl _))
  have c5 : Steps p.tables e below (s₁.setTop (entryFrame m #[.ref b, .int (Int32.ofNat o), .int (Int32.ofNat len)] 6)) (T3.setTop (mkF m 9 #[.val (.ref b), .val (.int (Int32.ofNat o)), .val (.int (Int32.ofNat len)), .val (.ref s.heap.size), .unset, .unset] [.int (Int32.ofNat len), .int 0, .ref s.heap.size, .int (Int32.ofNat o), .ref b])) := c4.trans (by
    refine XS.astoreN X3.here hexec rfl (hb hbytes d3) rfl rfl rfl ?_
    refine XS.aloadN X3.here hexec rfl (hb hbytes d4) rfl rfl ?_
    refine XS.iloadN X3.here hexec rfl (hb hbytes d5) rfl ?_
    refine XS.aloadN X3.here hexec rfl (hb hbytes d6) rfl rfl ?_
    refine iconstV X3.here hexec rfl 0 (hb hbytes d7) (by decide) ?_
    refine XS.iloadN X3.here hexec rfl (hb hbytes d8) rfl ?_
    exact Steps.refl _)
  obtain ⟨v6, T6, X6, E6, g6⟩ := X3.callS hexec (Cmp5.law l b A s.heap.size B3 o 0 len) hown (wks W (staticW U16 115 Cmp5.yN)) (wk W Cmp5.tab) (W := 0) (Nat.le_of_ble_eq_true rfl) (Nat.le_of_ble_eq_true rfl) (Nat.le_refl _) (by show 0 + len + 0 ≤ len; omega) (g := (mkF m 9 #[.val (.ref b), .val (.int (Int32.ofNat o)), .val (.int (Int32.ofNat len)), .val (.ref s.heap.size), .unset, .unset] [.int (Int32.ofNat len), .int (Int32.ofNat 0), .ref s.heap.size, .int (Int32.ofNat o), .ref b])) rfl (by rw [hml]; rfl) c5 (argsL := [.ref b, .int (Int32.ofNat o), .ref s.heap.size, .int (Int32.ofNat 0), .int (Int32.ofNat len)]) (rest := []) rfl rfl (by show 2 * 0 + 0 ≤ _; decide) (hb hbytes d9) (⟨rfl, hA3, ba3, hne, l1, by rw [bs3]; simp, hp⟩)
  obtain ⟨rfl, B6, p6, f6⟩ := E6
  have c7 : Steps p.tables e below (s₁.setTop (entryFrame m #[.ref b, .int (Int32.ofNat o), .int (Int32.ofNat len)] 6)) (T6.setTop (mkF m 12 #[.val (.ref b), .val (.int (Int32.ofNat o)), .val (.int (Int32.ofNat len)), .val (.ref s.heap.size), .unset, .unset] [.int (Int32.ofNat len)])) := g6
  have c8 : Steps p.tables e below (s₁.setTop (entryFrame m #[.ref b, .int (Int32.ofNat o), .int (Int32.ofNat len)] 6)) (T6.setTop (mkF m 58 #[.val (.ref b), .val (.int (Int32.ofNat o)), .val (.int (Int32.ofNat len)), .val (.ref s.heap.size), .val (.int (Int32.ofNat len)), .unset] [.ref s.heap.size])) := c7.trans (by
    refine XS.istore X6.here hexec rfl (hb hbytes d12) rfl rfl ?_
    refine XS.iload X6.here hexec rfl (hb hbytes d14) rfl ?_
    refine XS.iloadN X6.here hexec rfl (hb hbytes d16) rfl ?_
    refine XS.icmpYes X6.here hexec rfl (pc0 := 17) rfl (hb hbytes d17) rfl (ii_eq_t rfl) (by decide) rfl ?_
    refine XS.aloadN X6.here hexec rfl (hb hbytes d57) rfl rfl ?_
    exact Steps.refl _)
  have X8 := X6.wide (L' := []) (cells' := 1) (slots' := len) (fun x hx hlt => by
    simp only [List.nil_append, copyLocs, List.mem_map, List.mem_range] at hx
    obtain ⟨i, -, rfl⟩ := hx
    exact absurd hlt (Nat.lt_irrefl _)) (Nat.le_refl _) (by omega)
  exact ⟨T6, some (.ref s.heap.size), _, _, _, X8, rfl, rfl, rfl, (fun h => by cases h), ⟨⟨rfl, B6, ba3.like (X3.warmed.alike.symm.trans X6.warmed.alike) p6.1 f6.1 f6.2.1 f6.2.2.1, f6.2.1.trans bv3, by rw [X6.warmed.alike.findClass, f6.1]; exact bf3, by rw [f6.2.2.1, bs3]; simp, fun j hj => by rw [f6.2.2.2 j, if_pos (by omega)]; rfl, kp3.put p6 (Nat.le_refl _)⟩, by rw [p6.2.2, bh3, hh0]; simp⟩, fun fs hl => c8.trans (X8.areturnOut hexec rfl hret rfl (hb hbytes d58) hl)⟩
end Cmp3
namespace CodL
def yN : MethodName := ⟨"java/lang/StringUTF16", "coderFromArrayLen", "([BI)B"⟩
abbrev yB : ByteArray := jdk_52_method_15_code
theorem d0 : decode yB 0 = .ok (.iload_n 1, 1) := by decide +kernel
theorem d1 : decode yB 1 = .ok (.aload_n 0, 1) := by decide +kernel
theorem d2 : decode yB 2 = .ok (.arraylength, 1) := by decide +kernel
theorem d3 : decode yB 3 = .ok (.isub, 1) := by decide +kernel
theorem d4 : decode yB 4 = .ok (.bipush 31, 2) := by decide +kernel
theorem d6 : decode yB 6 = .ok (.iushr, 1) := by decide +kernel
theorem d7 : decode yB 7 = .ok (.i2b, 1) := by decide +kernel
theorem d8 : decode yB 8 = .ok (.ireturn, 1) := by decide +kernel
def site : List Cond := []
def tab : Cond := tabOf yN yB 2 (some .byte) site
def P (d : Addr) (B : Cell) (args : Array Value) (s : State) : Prop := args = #[.ref d, .int (Int32.ofNat B.slots.size)] ∧ Arr .byte d B s
def E (r : Option Value) (s u : State) : Prop := XT.PureE (some (.int 0)) r s u
/-- an array as long as the number of chars: LATIN1 -/
theorem law (l : Launch) (d : Addr) (B : Cell) : Law l yN 2 2 0 0 yB 2 (some .byte) site (P d B) E [] 0 0 := by
  refine Law.of_walk (plainFor_of_name (by decide +kernel)) (by decide +kernel) (by decide +kernel) (by decide) (fun _ _ h => by rw [h.1]; rfl) (fun _ U U' hal hh h => ⟨h.1, h.2.mv hal hh⟩) (fun r U U' V V' h1 hal h2 h => XT.PureE.mv r U U' V V' h1 hal h2 h) ?_
  intro p e s m args below meth c s₁ X0 hexec hbytes hml hret hlk hnm hown hh0 W hP
  obtain ⟨rfl, hB⟩ := hP
  have hB0 := hB.mv X0.warmed.alike hh0
  have c1 : Steps p.tables e below (s₁.setTop (entryFrame m #[.ref d, .int (Int32.ofNat B.slots.size)] 2)) (s₁.setTop (mkF m 0 #[.val (.ref d), .val (.int (Int32.ofNat B.slots.size))] [])) := entry rfl
  have c2 : Steps p.tables e below (s₁.setTop (entryFrame m #[.ref d, .int (Int32.ofNat B.slots.size)] 2)) (s₁.setTop (mkF m 2 #[.val (.ref d), .val (.int (Int32.ofNat B.slots.size))] [.ref d, .int (Int32.ofNat B.slots.size)])) := c1.trans (by
    refine XS.iloadN X0.here hexec rfl (hb hbytes d0) rfl ?_
    refine XS.aloadN X0.here hexec rfl (hb hbytes d1) rfl rfl ?_
    exact Steps.refl _)
  have c3 : Steps p.tables e below (s₁.setTop (entryFrame m #[.ref d, .int (Int32.ofNat B.slots.size)] 2)) (s₁.setTop (mkF m 8 #[.val (.ref d), .val (.int (Int32.ofNat B.slots.size))] [.int (lo8 (ushr (Int32.ofNat B.slots.size - Int32.ofNat B.slots.size) 31))])) := c2.trans (by
    refine X0.alen hexec hB0 rfl rfl (hb hbytes d2) ?_
    refine XS.isub X0.here hexec rfl (hb hbytes d3) rfl ?_
    refine bipushV X0.here hexec rfl 31 (hb hbytes d4) (by decide) ?_
    refine iushr X0.here hexec rfl (hb hbytes d6) rfl ?_
    refine i2b X0.here hexec rfl (hb hbytes d7) rfl ?_
    exact Steps.refl _)
  have e0 : lo8 (ushr (Int32.ofNat B.slots.size - Int32.ofNat B.slots.size) 31) = 0 := by rw [Int32.sub_self]; decide
  rw [e0] at c3
  exact ⟨s₁, some (.int 0), _, _, _, X0, rfl, rfl, rfl, (fun h => by cases h), ⟨rfl, hh0⟩, fun fs hl => c3.trans (X0.ireturnOut hexec hret rfl (Or.inr (Or.inr (Or.inl rfl))) (hb hbytes d8) hl)⟩
end CodL
/-- the String at a is Latin-1 over a new byte[] (the heap's one new cell): the low bytes of the len chars of A from o on; every cell but a is kept -/
def Got (a : Addr) (D : Cell) (fV fC : Field) (A : Cell) (o len : Nat) (r : Option Value) (s u : State) : Prop := r = none ∧ ∃ D' V : Cell, Blank "java/lang/String" a D' u ∧ Same D D' [fV.slot, fC.slot] ∧ D'.slots[fV.slot]? = some (.ref s.heap.size) ∧ D'.slots[fC.slot]? = some (.int 0) ∧ Arr .byte s.heap.size V u ∧ V.vm = .none ∧ u.vm.findClass "[B" = some V.cls ∧ V.slots.size = len ∧ (∀ j, j < len → V.slots[j]? = some (.int (lo8 (cv A (o + j))))) ∧ (∀ (y : Addr) (c : Cell), y ≠ a → s.heap[y]? = some c → u.heap[y]? = some c) ∧ u.heap.size = s.heap.size + 1
theorem Got.mv {a : Addr} {D A : Cell} {fV fC : Field} {o len : Nat} : ∀ r (U U' V V' : State), U'.heap = U.heap → V.vm.Alike V'.vm → V'.heap = V.heap → Got a D fV fC A o len r U V → Got a D fV fC A o len r U' V' :=
  fun r U U' V V' h1 hal h2 ⟨e0, D', X, a1, a2, a3, a4, a5, a6, a7, a8, a9, a10, a11⟩ => ⟨e0, D', X, a1.mv hal h2, a2, by rw [h1]; exact a3, a4, by rw [h1]; exact a5.mv hal h2, a6, by rw [hal.findClass]; exact a7, a8, a9, by rw [h1, h2]; exact a10, by rw [h1, h2]; exact a11⟩
namespace New4
def yN : MethodName := ⟨"java/lang/String", "<init>", "([CIILjava/lang/Void;)V"⟩
abbrev yB : ByteArray := jdk_42_method_149_code
theorem d0 : decode yB 0 = .ok (.aload_n 0, 1) := by decide +kernel
theorem d1 : decode yB 1 = .ok (.invokespecial 1, 3) := by decide +kernel
theorem d4 : decode yB 4 = .ok (.iload_n 3, 1) := by decide +kernel
theorem d5 : decode yB 5 = .ok (.ifCond (.ne) 22, 3) := by decide +kernel
theorem d27 : decode yB 27 = .ok (.getstatic 38, 3) := by decide +kernel
theorem d30 : decode yB 30 = .ok (.ifCond (.eq) 28, 3) := by decide +kernel
theorem d33 : decode yB 33 = .ok (.aload_n 1, 1) := by decide +kernel
theorem d34 : decode yB 34 = .ok (.iload_n 2, 1) := by decide +kernel
theorem d35 : decode yB 35 = .ok (.iload_n 3, 1) := by decide +kernel
theorem d36 : decode yB 36 = .ok (.invokestatic 177, 3) := by decide +kernel
theorem d39 : decode yB 39 = .ok (.astore 5, 2) := by decide +kernel
theorem d41 : decode yB 41 = .ok (.aload_n 0, 1) := by decide +kernel
theorem d42 : decode yB 42 = .ok (.aload 5, 2) := by decide +kernel
theorem d44 : decode yB 44 = .ok (.iload_n 3, 1) := by decide +kernel
theorem d45 : decode yB 45 = .ok (.invokestatic 47, 3) := by decide +kernel
theorem d48 : decode yB 48 = .ok (.putfield 15, 3) := by decide +kernel
theorem d51 : decode yB 51 = .ok (.aload_n 0, 1) := by decide +kernel
theorem d52 : decode yB 52 = .ok (.aload 5, 2) := by decide +kernel
theorem d54 : decode yB 54 = .ok (.putfield 9, 3) := by decide +kernel
theorem d57 : decode yB 57 = .ok (.return_, 1) := by decide +kernel
def site : List Cond := [.fieldLink "java/lang/String" 38 "java/lang/String" "COMPACT_STRINGS" "Z", Cmp3.tab, CodL.tab, .laysFinal "java/lang/String" "java/lang/String" "value" "[B", .fieldLink "java/lang/String" 9 "java/lang/String" "value" "[B", .laysFinal "java/lang/String" "java/lang/String" "coder" "B", .fieldLink "java/lang/String" 15 "java/lang/String" "coder" "B"] ++ objW "java/lang/String" 1 ++ staticW "java/lang/String" 177 Cmp3.yN ++ staticW "java/lang/String" 47 CodL.yN
def tab : Cond := tabOf yN yB 6 none site
def P (a : Addr) (D : Cell) (fV fC : Field) (b : Addr) (A : Cell) (z : Int32) (o len : Nat) (args : Array Value) (s : State) : Prop := args = #[.ref a, .ref b, .int (Int32.ofNat o), .int (Int32.ofNat len), .null] ∧ Blank "java/lang/String" a D s ∧ Found "java/lang/String" "value" "[B" fV s ∧ Found "java/lang/String" "coder" "B" fC s ∧ Ch b A s ∧ StaticIs s "java/lang/String" "COMPACT_STRINGS" "Z" (.int z) ∧ ¬ z = 0 ∧ 0 < len ∧ o + len ≤ A.slots.size ∧ len ≤ 536870912 ∧ ∀ i, i < len → ¬ 255 < cv A (o + i)
def E (a : Addr) (D : Cell) (fV fC : Field) (A : Cell) (o len : Nat) (r : Option Value) (s u : State) : Prop := Got a D fV fC A o len r s u
/-- len > 0, no char of the range above 255: a Latin-1 String of their low bytes -/
theorem law (l : Launch) (a : Addr) (D : Cell) (fV fC : Field) (b : Addr) (A : Cell) (z : Int32) (o len : Nat) : Law l yN 5 4 2 35 yB 6 none site (P a D fV fC b A z o len) (E a D fV fC A o len) [⟨a, fC.slot⟩, ⟨a, fV.slot⟩] 1 len := by
  refine Law.of_walk (plainFor_of_name (by decide +kernel)) (by decide +kernel) (by decide +kernel) (by decide) (fun _ _ h => by rw [h.1]; rfl) (fun _ U U' hal hh h => ⟨h.1, h.2.1.mv hal hh, h.2.2.1.al hal, h.2.2.2.1.al hal, h.2.2.2.2.1.mv hal hh, h.2.2.2.2.2.1.there hal hh, h.2.2.2.2.2.2⟩) (fun r U U' V V' h1 hal h2 h => Got.mv r U U' V V' h1 hal h2 h) ?_
  intro p e s m args below meth c s₁ X0 hexec hbytes hml hret hlk hnm hown hh0 W hP
  obtain ⟨rfl, hB, f1, f2, hA, s1, hz, l0, l1, l2, hp⟩ := hP
  have a31 := hA.1.2.2.2
  have c1 : Steps p.tables e below (s₁.setTop (entryFrame m #[.ref a, .ref b, .int (Int32.ofNat o), .int (Int32.ofNat len), .null] 6)) (s₁.setTop (mkF m 0 #[.val (.ref a), .val (.ref b), .val (.int (Int32.ofNat o)), .val (.int (Int32.ofNat len)), .val .null, .unset] [])) := entry rfl
  have c2 : Steps p.tables e below (s₁.setTop (entryFrame m #[.ref a, .ref b, .int (Int32.ofNat o), .int (Int32.ofNat len), .null] 6)) (s₁.setTop (mkF m 1 #[.val (.ref a), .val (.ref b), .val (.int (Int32.ofNat o)), .val (.int (Int32.ofNat len)), .val .null, .unset] [.ref a])) := c1.trans (by
    refine XS.aloadN X0.here hexec rfl (hb hbytes d0) rfl rfl ?_
    exact Steps.refl _)
  obtain ⟨T3, X3, q3, st3⟩ := X0.oinit hexec hown (wks W (objW "java/lang/String" 1)) (g := (mkF m 1 #[.val (.ref a), .val (.ref b), .val (.int (Int32.ofNat o)), .val (.int (Int32.ofNat len)), .val .null, .unset] [.ref a])) rfl (by rw [hml]; rfl) (rest := []) rfl (hb hbytes d1) (W := 0) (by show 2 * 0 + 0 ≤ _; decide) (Nat.le_of_ble_eq_true rfl) (Nat.le_of_ble_eq_true rfl)
  have hh3 := q3.trans hh0
  have c4 : Steps p.tables e below (s₁.setTop (entryFrame m #[.ref a, .ref b, .int (Int32.ofNat o), .int (Int32.ofNat len), .null] 6)) (T3.setTop (mkF m 27 #[.val (.ref a), .val (.ref b), .val (.int (Int32.ofNat o)), .val (.int (Int32.ofNat len)), .val .null, .unset] [])) := (c2.trans (st3 _ (Steps.refl _))).trans (by
    refine XS.iloadN X3.here hexec rfl (hb hbytes d4) rfl ?_
    refine XS.ifYes X3.here hexec rfl (pc0 := 5) rfl (hb hbytes d5) rfl (i0_ne_t (nz32 (by omega) l0)) (by decide) rfl ?_
    exact Steps.refl _)
  obtain ⟨T5, X5, q5, st5⟩ := X3.sget hexec hown (wk W (.fieldLink "java/lang/String" 38 "java/lang/String" "COMPACT_STRINGS" "Z")) s1 (fun _ _ h => by rw [hh3]; exact h) (g := (mkF m 27 #[.val (.ref a), .val (.ref b), .val (.int (Int32.ofNat o)), .val (.int (Int32.ofNat len)), .val .null, .unset] [])) rfl (hb hbytes d27)
  have hh5 := q5.trans hh3
  have c6 : Steps p.tables e below (s₁.setTop (entryFrame m #[.ref a, .ref b, .int (Int32.ofNat o), .int (Int32.ofNat len), .null] 6)) (T5.setTop (mkF m 30 #[.val (.ref a), .val (.ref b), .val (.int (Int32.ofNat o)), .val (.int (Int32.ofNat len)), .val .null, .unset] [.int z])) := c4.trans (st5 _ (Steps.refl _))
  have c7 : Steps p.tables e below (s₁.setTop (entryFrame m #[.ref a, .ref b, .int (Int32.ofNat o), .int (Int32.ofNat len), .null] 6)) (T5.setTop (mkF m 36 #[.val (.ref a), .val (.ref b), .val (.int (Int32.ofNat o)), .val (.int (Int32.ofNat len)), .val .null, .unset] [.int (Int32.ofNat len), .int (Int32.ofNat o), .ref b])) := c6.trans (by
    refine XS.ifNo X5.here hexec rfl (hb hbytes d30) rfl (i0_eq_f hz) ?_
    refine XS.aloadN X5.here hexec rfl (hb hbytes d33) rfl rfl ?_
    refine XS.iloadN X5.here hexec rfl (hb hbytes d34) rfl ?_
    refine XS.iloadN X5.here hexec rfl (hb hbytes d35) rfl ?_
    exact Steps.refl _)
  obtain ⟨v8, T8, X8, E8, g8⟩ := X5.callS hexec (Cmp3.law l b A o len) hown (wks W (staticW "java/lang/String" 177 Cmp3.yN)) (wk W Cmp3.tab) (W := 0) (Nat.le_of_ble_eq_true rfl) (Nat.le_of_ble_eq_true rfl) (Nat.le_refl _) (by show 0 + len ≤ len; omega) (g := (mkF m 36 #[.val (.ref a), .val (.ref b), .val (.int (Int32.ofNat o)), .val (.int (Int32.ofNat len)), .val .null, .unset] [.int (Int32.ofNat len), .int (Int32.ofNat o), .ref b])) rfl (by rw [hml]; rfl) c7 (argsL := [.ref b, .int (Int32.ofNat o), .int (Int32.ofNat len)]) (rest := []) rfl rfl (by show 2 * 0 + 0 ≤ _; decide) (hb hbytes d36) (⟨rfl, hA.mv X5.warmed.alike hh5, l1, l2, hp⟩)
  obtain ⟨e8, z8⟩ := E8
  obtain ⟨rfl, N, n1, n2, n3, n4, n5, n6⟩ := NewArr.mv _ T5 s _ _ hh5.symm (Vm.Alike.refl _) rfl e8
  rw [hh5] at z8
  have hB1 := hB.keep X8.warmed.alike (n6 _ _ hB.1)
  have hne : s.heap.size ≠ a := (Nat.ne_of_lt (Array.getElem?_eq_some_iff.mp hB.1).1).symm
  have c9 : Steps p.tables e below (s₁.setTop (entryFrame m #[.ref a, .ref b, .int (Int32.ofNat o), .int (Int32.ofNat len), .null] 6)) (T8.setTop (mkF m 39 #[.val (.ref a), .val (.ref b), .val (.int (Int32.ofNat o)), .val (.int (Int32.ofNat len)), .val .null, .unset] [.ref s.heap.size])) := g8
  have c10 : Steps p.tables e below (s₁.setTop (entryFrame m #[.ref a, .ref b, .int (Int32.ofNat o), .int (Int32.ofNat len), .null] 6)) (T8.setTop (mkF m 45 #[.val (.ref a), .val (.ref b), .val (.int (Int32.ofNat o)), .val (.int (Int32.ofNat len)), .val .null, .val (.ref s.heap.size)] [.int (Int32.ofNat N.slots.size), .ref s.heap.size, .ref a])) := by
    have hc : Steps p.tables e below (s₁.setTop (entryFrame m #[.ref a, .ref b, .int (Int32.ofNat o), .int (Int32.ofNat len), .null] 6)) (T8.setTop (mkF m 45 #[.val (.ref a), .val (.ref b), .val (.int (Int32.ofNat o)), .val (.int (Int32.ofNat len)), .val .null, .val (.ref s.heap.size)] [.int (Int32.ofNat len), .ref s.heap.size, .ref a])) := c9.trans (by
      refine XS.astore X8.here hexec rfl (hb hbytes d39) rfl rfl rfl ?_
      refine XS.aloadN X8.here hexec rfl (hb hbytes d41) rfl rfl ?_
      refine XS.aload X8.here hexec rfl (hb hbytes d42) rfl rfl ?_
      refine XS.iloadN X8.here hexec rfl (hb hbytes d44) rfl ?_
      exact Steps.refl _)
    rw [n4]; exact hc
  obtain ⟨v11, T11, X11, E11, g11⟩ := X8.callS hexec (CodL.law l s.heap.size N) hown (wks W (staticW "java/lang/String" 47 CodL.yN)) (wk W CodL.tab) (W := 1) (Nat.le_of_ble_eq_true rfl) (Nat.le_of_ble_eq_true rfl) (Nat.le_refl _) (by show 0 + len + 0 ≤ len; omega) (g := (mkF m 45 #[.val (.ref a), .val (.ref b), .val (.int (Int32.ofNat o)), .val (.int (Int32.ofNat len)), .val .null, .val (.ref s.heap.size)] [.int (Int32.ofNat N.slots.size), .ref s.heap.size, .ref a])) rfl (by rw [hml]; rfl) c10 (argsL := [.ref s.heap.size, .int (Int32.ofNat N.slots.size)]) (rest := [.ref a]) rfl rfl (by show 2 * 0 + (1 + 0) ≤ _; decide) (hb hbytes d45) (⟨rfl, n1⟩)
  obtain ⟨rfl, q11⟩ := E11
  have hB11 := hB1.mv (X8.warmed.alike.symm.trans X11.warmed.alike) q11
  have c12 : Steps p.tables e below (s₁.setTop (entryFrame m #[.ref a, .ref b, .int (Int32.ofNat o), .int (Int32.ofNat len), .null] 6)) (T11.setTop (mkF m 48 #[.val (.ref a), .val (.ref b), .val (.int (Int32.ofNat o)), .val (.int (Int32.ofNat len)), .val .null, .val (.ref s.heap.size)] [.int 0, .ref a])) := g11
  obtain ⟨T13, X13, p13, bl13, sl13, st13⟩ := X11.finit hexec hown (wk W (.fieldLink "java/lang/String" 15 "java/lang/String" "coder" "B")) (Or.inr ⟨_, (wk W (.laysFinal "java/lang/String" "java/lang/String" "coder" "B"))⟩) (Or.inl ⟨rfl, hnm⟩) f2 (Or.inl rfl) hB11 (t := .byte) (by decide +kernel) rfl (g := (mkF m 48 #[.val (.ref a), .val (.ref b), .val (.int (Int32.ofNat o)), .val (.int (Int32.ofNat len)), .val .null, .val (.ref s.heap.size)] [.int 0, .ref a])) rfl (rest := []) rfl (hb hbytes d48)
  have c14 : Steps p.tables e below (s₁.setTop (entryFrame m #[.ref a, .ref b, .int (Int32.ofNat o), .int (Int32.ofNat len), .null] 6)) (T13.setTop (mkF m 54 #[.val (.ref a), .val (.ref b), .val (.int (Int32.ofNat o)), .val (.int (Int32.ofNat len)), .val .null, .val (.ref s.heap.size)] [.ref s.heap.size, .ref a])) := (c12.trans (st13 _ (Steps.refl _))).trans (by
    refine XS.aloadN X13.here hexec rfl (hb hbytes d51) rfl rfl ?_
    refine XS.aload X13.here hexec rfl (hb hbytes d52) rfl rfl ?_
    exact Steps.refl _)
  obtain ⟨T15, X15, p15, bl15, sl15, st15⟩ := X13.finit hexec hown (wk W (.fieldLink "java/lang/String" 9 "java/lang/String" "value" "[B")) (Or.inr ⟨_, (wk W (.laysFinal "java/lang/String" "java/lang/String" "value" "[B"))⟩) (Or.inl ⟨rfl, hnm⟩) f1 (Or.inl rfl) bl13 (t := (.array .byte)) (by decide +kernel) rfl (g := (mkF m 54 #[.val (.ref a), .val (.ref b), .val (.int (Int32.ofNat o)), .val (.int (Int32.ofNat len)), .val .null, .val (.ref s.heap.size)] [.ref s.heap.size, .ref a])) rfl (rest := []) rfl (hb hbytes d54)
  have c16 : Steps p.tables e below (s₁.setTop (entryFrame m #[.ref a, .ref b, .int (Int32.ofNat o), .int (Int32.ofNat len), .null] 6)) (T15.setTop (mkF m 57 #[.val (.ref a), .val (.ref b), .val (.int (Int32.ofNat o)), .val (.int (Int32.ofNat len)), .val .null, .val (.ref s.heap.size)] [])) := c14.trans (st15 _ (Steps.refl _))
  have ap := apart (Or.inr ⟨_, (wk W (.laysFinal "java/lang/String" "java/lang/String" "value" "[B"))⟩) (Or.inr ⟨_, (wk W (.laysFinal "java/lang/String" "java/lang/String" "coder" "B"))⟩) f1 f2 (t₁ := .array .byte) (t₂ := .byte) (by decide +kernel) (by decide +kernel) (by decide)
  have al := X8.warmed.alike.symm.trans X15.warmed.alike
  have n7 : T11.heap[s.heap.size]? = some N := by rw [q11]; exact n1.1
  exact ⟨T15, none, _, _, _, X15, by simp, rfl, by omega, (fun _ => rfl), ⟨rfl, _, N, bl15, ((Same.refl D _).set _ (by simp)).set _ (by simp), sl15, (Cell.slots_setSlot_ne _ ap).trans sl13, n1.keep al (p15.other hne (p13.other hne n7)), n2, by rw [al.findClass]; exact n3, n4, n5, fun y c h1 h2 => p15.other h1 (p13.other h1 (by rw [q11]; exact n6 y c h2)), by rw [p15.2.2, p13.2.2, q11]; exact z8⟩, fun fs hl => c16.trans (X15.returnOut hexec hret (hb hbytes d57) hl)⟩
end New4
namespace New1
def yN : MethodName := ⟨"java/lang/String", "<init>", "([C)V"⟩
abbrev yB : ByteArray := jdk_42_method_3_code
theorem d0 : decode yB 0 = .ok (.aload_n 0, 1) := by decide +kernel
theorem d1 : decode yB 1 = .ok (.aload_n 1, 1) := by decide +kernel
theorem d2 : decode yB 2 = .ok (.iconst 0, 1) := by decide +kernel
theorem d3 : decode yB 3 = .ok (.aload_n 1, 1) := by decide +kernel
theorem d4 : decode yB 4 = .ok (.arraylength, 1) := by decide +kernel
theorem d5 : decode yB 5 = .ok (.aconst_null, 1) := by decide +kernel
theorem d6 : decode yB 6 = .ok (.invokespecial 27, 3) := by decide +kernel
theorem d9 : decode yB 9 = .ok (.return_, 1) := by decide +kernel
def site : List Cond := [New4.tab] ++ initW "java/lang/String" 27 New4.yN
def tab : Cond := tabOf yN yB 2 none site
def P (a : Addr) (D : Cell) (fV fC : Field) (b : Addr) (A : Cell) (z : Int32) (args : Array Value) (s : State) : Prop := args = #[.ref a, .ref b] ∧ Blank "java/lang/String" a D s ∧ Found "java/lang/String" "value" "[B" fV s ∧ Found "java/lang/String" "coder" "B" fC s ∧ Ch b A s ∧ StaticIs s "java/lang/String" "COMPACT_STRINGS" "Z" (.int z) ∧ ¬ z = 0 ∧ 0 < A.slots.size ∧ A.slots.size ≤ 536870912 ∧ ∀ i, i < A.slots.size → ¬ 255 < cv A i
def E (a : Addr) (D : Cell) (fV fC : Field) (A : Cell) (r : Option Value) (s u : State) : Prop := Got a D fV fC A 0 A.slots.size r s u
/-- new String(chars), not empty, no char above 255: a Latin-1 String of their low bytes -/
theorem law (l : Launch) (a : Addr) (D : Cell) (fV fC : Field) (b : Addr) (A : Cell) (z : Int32) : Law l yN 2 1 3 52 yB 2 none site (P a D fV fC b A z) (E a D fV fC A) [⟨a, fC.slot⟩, ⟨a, fV.slot⟩] 1 A.slots.size := by
  refine Law.of_walk (plainFor_of_name (by decide +kernel)) (by decide +kernel) (by decide +kernel) (by decide) (fun _ _ h => by rw [h.1]; rfl) (fun _ U U' hal hh h => ⟨h.1, h.2.1.mv hal hh, h.2.2.1.al hal, h.2.2.2.1.al hal, h.2.2.2.2.1.mv hal hh, h.2.2.2.2.2.1.there hal hh, h.2.2.2.2.2.2⟩) (fun r U U' V V' h1 hal h2 h => Got.mv r U U' V V' h1 hal h2 h) ?_
  intro p e s m args below meth c s₁ X0 hexec hbytes hml hret hlk hnm hown hh0 W hP
  obtain ⟨rfl, hB, f1, f2, hA, s1, hz, l0, l2, hp⟩ := hP
  have c1 : Steps p.tables e below (s₁.setTop (entryFrame m #[.ref a, .ref b] 2)) (s₁.setTop (mkF m 0 #[.val (.ref a), .val (.ref b)] [])) := entry rfl
  have c2 : Steps p.tables e below (s₁.setTop (entryFrame m #[.ref a, .ref b] 2)) (s₁.setTop (mkF m 6 #[.val (.ref a), .val (.ref b)] [.null, .int (Int32.ofNat A.slots.size), .int 0, .ref b, .ref a])) := c1.trans (by
    refine XS.aloadN X0.here hexec rfl (hb hbytes d0) rfl rfl ?_
    refine XS.aloadN X0.here hexec rfl (hb hbytes d1) rfl rfl ?_
    refine iconstV X0.here hexec rfl 0 (hb hbytes d2) (by decide) ?_
    refine XS.aloadN X0.here hexec rfl (hb hbytes d3) rfl rfl ?_
    refine X0.alen hexec (hA.1.mv X0.warmed.alike hh0) rfl rfl (hb hbytes d4) ?_
    refine XS.aconstNull X0.here hexec rfl (hb hbytes d5) ?_
    exact Steps.refl _)
  obtain ⟨v3, T3, X3, E3, g3⟩ := X0.callN hexec (New4.law l a D fV fC b A z 0 A.slots.size) rfl hown (wks W (initW "java/lang/String" 27 New4.yN)) (W New4.tab (by simp only [site, List.mem_cons, List.mem_append, true_or, or_true])) (W := 0) (Nat.le_of_ble_eq_true rfl) (Nat.le_of_ble_eq_true rfl) (Nat.le_refl _) (by show 0 + A.slots.size ≤ A.slots.size; omega) (g := (mkF m 6 #[.val (.ref a), .val (.ref b)] [.null, .int (Int32.ofNat A.slots.size), .int (Int32.ofNat 0), .ref b, .ref a])) rfl (by rw [hml]; rfl) c2 (argsL := [.ref b, .int (Int32.ofNat 0), .int (Int32.ofNat A.slots.size), .null]) (rest := []) rfl rfl (by show 2 * 0 + 0 ≤ _; decide) (hb hbytes d6) (⟨rfl, hB.mv X0.warmed.alike hh0, f1.al X0.warmed.alike, f2.al X0.warmed.alike, hA.mv X0.warmed.alike hh0, s1.there X0.warmed.alike hh0, hz, l0, by omega, l2, fun i hi => by rw [Nat.zero_add]; exact hp i hi⟩)
  have e0 := Got.mv _ s₁ s _ _ hh0.symm (Vm.Alike.refl _) rfl E3
  obtain rfl := e0.1
  have c4 : Steps p.tables e below (s₁.setTop (entryFrame m #[.ref a, .ref b] 2)) (T3.setTop (mkF m 9 #[.val (.ref a), .val (.ref b)] [])) := g3
  exact ⟨T3, none, _, _, _, X3, by simp, rfl, by omega, (fun _ => rfl), e0, fun fs hl => c4.trans (X3.returnOut hexec hret (hb hbytes d9) hl)⟩
theorem pays {l : Launch} {R : Room} {p : Program} {e : Env} {below : List Frame} {s : State} {sargs : Array Value} {len W : Nat} (a : Addr) (D : Cell) (fV fC : Field) (b : Addr) (A : Cell) (z : Int32) (htab : tab.before sargs s = true) (hfr : 4 ≤ R.frames) (hlo : W + 65 ≤ R.locals) :
    Back l R p e below s sargs yN len W (fun A₁ a₁ => A₁.cells + 1 ≤ R.cells ∧ A₁.slots + A.slots.size ≤ R.slots ∧ P a D fV fC b A z a₁ A₁.U) (fun A₁ _ v₁ B₁ => E a D fV fC A v₁ A₁.U B₁.U ∧ B₁.locs = A₁.locs ++ [⟨a, fC.slot⟩, ⟨a, fV.slot⟩] ∧ B₁.cells = A₁.cells + 1 ∧ B₁.slots = A₁.slots + A.slots.size) :=
  (law l a D fV fC b A z).pays htab hfr (by omega)
end New1
/-- the byte, read back as charAt reads it, is the char -/
theorem lo8_mask {x : Int32} (h0 : ¬ x < 0) (h1 : ¬ 255 < x) : lo8 x &&& 255 = x := by
  have t : ∀ k : Fin 256, lo8 (Int32.ofNat k.val) &&& 255 = Int32.ofNat k.val := by decide +kernel
  rw [Int32.lt_iff_toInt_lt] at h0 h1
  have e0 : (0 : Int32).toInt = 0 := rfl
  have e1 : (255 : Int32).toInt = 255 := rfl
  obtain ⟨k, hk⟩ : ∃ k : Nat, x.toInt = k := ⟨x.toInt.toNat, by omega⟩
  have hx : x = Int32.ofNat k := Int32.toInt_inj.mp (by rw [hk, Int32.toInt_ofNat_small (by omega)])
  rw [hx]
  exact t ⟨k, by omega⟩
end StrChars
namespace StrChars.Road
open Jvm Sem ClassFile Op Lib Jvm.Stand Jvm.Free Jvm.Free.XT
open Jvm.Lib.Cold (StaticIs)
abbrev ST : String := "java/lang/String"
/-- every table word that New1's law asks, flat -/
abbrev words : List Jvm.Cond := [.code New1.yN New1.yB 2 none, .initialized ST, .methodLink ST 27 New4.yN, .instanceMethod New4.yN,
  .code New4.yN New4.yB 6 none, .fieldLink ST 38 ST "COMPACT_STRINGS" "Z", .laysFinal ST ST "value" "[B", .fieldLink ST 9 ST "value" "[B", .laysFinal ST ST "coder" "B", .fieldLink ST 15 ST "coder" "B",
  .methodLink ST 1 Lib.objectInit, .instanceMethod Lib.objectInit, .code Lib.objectInit ⟨#[0xb1]⟩ 1 none, .methodLink ST 177 Cmp3.yN, .static Cmp3.yN, .methodLink ST 47 CodL.yN, .static CodL.yN,
  .code Cmp3.yN Cmp3.yB 6 (some (.array .byte)), .initialized U16, .arrayClass .byte, .methodLink U16 115 Cmp5.yN, .static Cmp5.yN, .code Cmp5.yN Cmp5.yB 7 (some .int), .code CodL.yN CodL.yB 2 (some .byte)]
theorem tab_of {a : Array Value} {s : State} (h : ∀ w ∈ words, w.before a s = true) : New1.tab.before a s = true := by
  have h5 : Cmp5.tab.before a s = true := unparts (wk h (.code Cmp5.yN Cmp5.yB 7 (some .int))) (wks h (.initialized Cmp5.yN.cls :: Cmp5.site))
  have hc : CodL.tab.before a s = true := unparts (wk h (.code CodL.yN CodL.yB 2 (some .byte))) (wks h (.initialized CodL.yN.cls :: CodL.site))
  have q5 : ∀ w ∈ Cmp5.tab :: words, w.before a s = true := fun w hw => (List.mem_cons.mp hw).elim (fun e => e ▸ h5) (h w)
  have h3 : Cmp3.tab.before a s = true := unparts (wk q5 (.code Cmp3.yN Cmp3.yB 6 (some (.array .byte)))) (wks q5 (.initialized Cmp3.yN.cls :: Cmp3.site))
  have q3 : ∀ w ∈ Cmp3.tab :: CodL.tab :: words, w.before a s = true := fun w hw => (List.mem_cons.mp hw).elim (fun e => e ▸ h3) fun hw => (List.mem_cons.mp hw).elim (fun e => e ▸ hc) (h w)
  have h4 : New4.tab.before a s = true := unparts (wk q3 (.code New4.yN New4.yB 6 none)) (wks q3 (.initialized New4.yN.cls :: New4.site))
  have q4 : ∀ w ∈ New4.tab :: words, w.before a s = true := fun w hw => (List.mem_cons.mp hw).elim (fun e => e ▸ h4) (h w)
  exact unparts (wk q4 (.code New1.yN New1.yB 2 none)) (wks q4 (.initialized New1.yN.cls :: New1.site))
/-- the words ride from the start Z to the walk's own state -/
theorem moved {Z s : State} {a0 args : Array Value} (hZ : Z.Warmed39 s.vm) (hw : ∀ d ∈ words, d.before a0 Z = true) : ∀ d ∈ words, d.before args s = true := fun d hd => by
  have q := hw d hd
  have t : ∀ d ∈ words, d = .arrayClass .byte ∨ (d.onTables && d.keepsFace) = true := by decide +kernel
  rcases t d hd with rfl | t
  · exact RoadKit.mvA hZ q
  · exact RoadKit.mv hZ q t
/-- WHAT COMES BACK, over the tables of the start Z: h the heap at the call, h' behind it -/
def Q (Z : State) (x : Addr) (A : Cell) (h : Heap) (v : Option Value) (h' : Heap) (L : List Loc) : Prop := v = none ∧ (∀ y ∈ L, y.base = x) ∧ RoadKit.Keep h h' [x] ∧ h'.size = h.size + 1 ∧ RoadKit.Exa Z h' x ST ∧ RoadKit.Fld Z h' x ST "value" "[B" (.ref h.size) ∧ RoadKit.Fld Z h' x ST "coder" "B" (.int 0) ∧
  (∃ V : Cell, RoadKit.Arr Z h' h.size V .byte ∧ V.vm = .none ∧ Z.vm.findClass "[B" = some V.cls ∧ V.slots.size = A.slots.size ∧ ∀ j, j < A.slots.size → V.slots[j]? = some (.int (lo8 (cv A j)))) ∧
  ∀ (O n d : String) (w : Value), RoadKit.Fld Z h x O n d w → RoadKit.slotOf Z O n d ≠ RoadKit.slotOf Z ST "value" "[B" → RoadKit.slotOf Z O n d ≠ RoadKit.slotOf Z ST "coder" "B" → RoadKit.Fld Z h' x O n d w
/-- **new String(chars) AT A CALL, IN THE ROAD'S FORM**: for specialBack behind newO: x the fresh String, b the char[] with the cell A -/
theorem back {p : Program} {l : Launch} {e : Env} {R : Room} {s : State} {args : Array Value} {below : List Frame} {len W : Nat} {Z : State} {a0 : Array Value} {h : Heap} (hZ : Z.Warmed39 s.vm) (hw : ∀ d ∈ words, d.before a0 Z = true) {kI : Nat} (wi : (Jvm.Cond.instantiable ST kI).before a0 Z = true)
    {x b : Addr} {A : Cell} {z : Int32} {v0 c0 : Value} (E : RoadKit.Exa Z h x ST) (V : RoadKit.Fld Z h x ST "value" "[B" v0) (C : RoadKit.Fld Z h x ST "coder" "B" c0) (K : RoadKit.Arr Z h b A .char) (hty : Typed .char A) (S : RoadKit.Sta Z h ST "COMPACT_STRINGS" "Z" (.int z)) (hz : ¬ z = 0)
    (l0 : 0 < A.slots.size) (l2 : A.slots.size ≤ 536870912) (hp : ∀ i, i < A.slots.size → ¬ 255 < cv A i) (hfr : 4 ≤ R.frames) (hlo : W + 65 ≤ R.locals) :
    Back l R p e below s args New1.yN len W (fun P a => a = #[.ref x, .ref b] ∧ P.U.heap = h ∧ P.cells + 1 ≤ R.cells ∧ P.slots + A.slots.size ≤ R.slots)
      (fun P _ v B => ∃ L, Q Z x A h v B.U.heap L ∧ B.locs = P.locs ++ L ∧ B.cells = P.cells + 1 ∧ B.slots = P.slots + A.slots.size) := by
  intro m meth c P g ig mk a X hg hsize hdg hW hn hp'
  obtain ⟨rfl, rfl, r1, r2⟩ := hp'
  have al : Z.vm.Alike P.U.vm := hZ.alike.trans X.warmed.alike
  obtain ⟨D, cfV, kV, iV, fV, hD, gV, stV, knV, obV, asV, slV⟩ := id V
  obtain ⟨D', cfC, kC, iC, fC, hD', gC, stC, -, -, asC, slC⟩ := id C
  cases hD.symm.trans hD'
  obtain ⟨D2, kD, e1, e2, e3, e4, e5⟩ := id E
  cases hD.symm.trans e1
  obtain ⟨c2, k2, i1, i2, i3, -⟩ := Cond.instantiable_spec wi
  cases e2.symm.trans i1
  cases e3.symm.trans i2
  obtain ⟨kU, u1, u2⟩ := al.2.2 _ _ e3
  have hB : Blank ST x D P.U := ⟨hD, ⟨knV, fun q hq => by rw [hq] at obV; cases obV⟩, by rw [al.findClass]; exact e2, kU, u1, by rw [u2]; exact i3, by rw [u2]; exact e5 i3⟩
  have F1 : Found ST "value" "[B" fV P.U := ⟨SBG.found_only al ⟨cfV, kV, iV, gV⟩, stV⟩
  have F2 : Found ST "coder" "B" fC P.U := ⟨SBG.found_only al ⟨cfC, kC, iC, gC⟩, stC⟩
  have hA : Ch b A P.U := ⟨⟨K.1, State.isArrayOf_alike al K.2.1, K.2.2, by omega⟩, hty⟩
  have hS : StaticIs P.U ST "COMPACT_STRINGS" "Z" (.int z) := by
    obtain ⟨cfS, iS, kS, fS, st, cS, t1, t2, t3, t4, t5, t6, t7⟩ := S
    exact StaticIs.there (s := { Z with heap := P.U.heap }) ⟨cfS, iS, kS, fS, st, cS, t1, t2, t3, t4, t5, (fun q => by rw [q] at t6; cases t6), t7⟩ al rfl
  obtain ⟨v, B, X', ⟨⟨hv, E', V', q1, q2, q3, q4, q5, q6, q7, q8, q9, q10, q11⟩, hl, hc, hs⟩, st⟩ := New1.pays x D fV fC b A z (tab_of (moved hZ hw)) hfr hlo m meth c P g ig mk _ X hg hsize hdg hW hn ⟨r1, r2, rfl, hB, F1, F2, hA, hS, hz, l0, l2, hp⟩
  have al' : Z.vm.Alike B.U.vm := hZ.alike.trans X'.warmed.alike
  have hsz : E'.slots.size = D.slots.size := by
    obtain ⟨-, -, -, kB, w1, w2, w3⟩ := q1
    obtain ⟨kB', y1, y2⟩ := al'.2.2 _ _ e3
    rw [q2.2.1] at w1
    cases w1.symm.trans y1
    rw [w3, e5 i3, y2]
  refine ⟨v, B, X', ⟨_, ⟨hv, ?_, ⟨by omega, fun y cy hy hn' => q10 y cy (by simpa using hn') hy, fun y cy hy => ?_⟩, q11, ⟨E', _, q1.1, by rw [q2.2.1]; exact e2, by rw [q2.2.1]; exact e3, by rw [q2.1]; exact obV, fun _ => by rw [hsz]; exact e5 i3⟩,
    ⟨E', cfV, kV, iV, fV, q1.1, gV, stV, by rw [q2.1]; exact knV, by rw [q2.1]; exact obV, by rw [q2.2.1]; exact asV, q3⟩, ⟨E', cfC, kC, iC, fC, q1.1, gC, stC, by rw [q2.1]; exact knV, by rw [q2.1]; exact obV, by rw [q2.2.1]; exact asC, q4⟩,
    ⟨V', ⟨q5.1, State.isArrayOf_alike al'.symm q5.2.1, q5.2.2.1⟩, q6, by rw [← al'.findClass]; exact q7, q8, fun j hj => by have := q9 j hj; rwa [Nat.zero_add] at this⟩, fun O n d w F n1 n2 => ?_⟩, hl, hc, hs⟩, st⟩
  · intro y hy
    simp only [List.mem_cons, List.not_mem_nil, or_false] at hy
    rcases hy with rfl | rfl <;> rfl
  · by_cases q : y = x
    · subst q
      cases hD.symm.trans hy
      exact ⟨E', q1.1, q2.2.1, q2.1, hsz⟩
    · exact ⟨cy, q10 y cy q hy, rfl, rfl, rfl⟩
  · obtain ⟨D3, cf, k, i, f, g1, g2, g3, g4, g5, g6, g7⟩ := F
    cases hD.symm.trans g1
    simp only [RoadKit.slotOf, g2, gV, gC, Option.map_some, Option.getD_some] at n1 n2
    exact ⟨E', cf, k, i, f, q1.1, g2, g3, by rw [q2.1]; exact g4, by rw [q2.1]; exact g5, by rw [q2.2.1]; exact g6, by rw [q2.2.2 f.slot (by simp [n1, n2])]; exact g7⟩
end StrChars.Road
namespace StrChars.Road
open Jvm Sem ClassFile Op Lib Jvm.Stand Jvm.Free Jvm.Free.XT
/-- WHAT COMES BACK, the byte[] as a list of values -/
def QA (Z : State) (x : Addr) (zn : Int32) (cs : List Int32) (h : Heap) (v : Option Value) (h' : Heap) (L : List Loc) : Prop := v = none ∧ (∀ y ∈ L, y.base = x) ∧ RoadKit.Keep h h' [x] ∧ h'.size = h.size + 1 ∧ RoadKit.Exa Z h' x ST ∧ RoadKit.Fld Z h' x ST "value" "[B" (.ref h.size) ∧ RoadKit.Fld Z h' x ST "coder" "B" (.int 0) ∧
  (∃ kb, Z.vm.findClass "[B" = some kb ∧ RoadKit.Arv Z h' h.size kb .byte zn (cs.map fun c => .int (lo8 c)) (.int 0)) ∧
  ∀ (O n d : String) (w : Value), RoadKit.Fld Z h x O n d w → RoadKit.slotOf Z O n d ≠ RoadKit.slotOf Z ST "value" "[B" → RoadKit.slotOf Z O n d ≠ RoadKit.slotOf Z ST "coder" "B" → RoadKit.Fld Z h' x O n d w
/-- **new String(chars) AT A CALL, THE ARRAYS AS LISTS**: the char[] at b holds cs, not empty, no char above 255 -/
theorem backArv {p : Program} {l : Launch} {e : Env} {R : Room} {s : State} {args : Array Value} {below : List Frame} {len W : Nat} {Z : State} {a0 : Array Value} {h : Heap} (hZ : Z.Warmed39 s.vm) (hw : ∀ d ∈ words, d.before a0 Z = true) {kI : Nat} (wi : (Jvm.Cond.instantiable ST kI).before a0 Z = true)
    {x b : Addr} {k : ClassId} {zn z : Int32} {cs : List Int32} {dv v0 c0 : Value} (E : RoadKit.Exa Z h x ST) (V : RoadKit.Fld Z h x ST "value" "[B" v0) (C : RoadKit.Fld Z h x ST "coder" "B" c0) (K : RoadKit.Arv Z h b k .char zn (cs.map Value.int) dv) (S : RoadKit.Sta Z h ST "COMPACT_STRINGS" "Z" (.int z)) (hz : ¬ z = 0)
    (hlen : zn.toNatClampNeg = cs.length) (h0 : 0 < cs.length) (hbig : cs.length ≤ 536870912) (hall : ∀ c ∈ cs, ¬ 255 < c) (hfr : 4 ≤ R.frames) (hlo : W + 65 ≤ R.locals) :
    Back l R p e below s args New1.yN len W (fun P a => a = #[.ref x, .ref b] ∧ P.U.heap = h ∧ P.cells + 1 ≤ R.cells ∧ P.slots + cs.length ≤ R.slots)
      (fun P _ v B => ∃ L, QA Z x zn cs h v B.U.heap L ∧ B.locs = P.locs ++ L ∧ B.cells = P.cells + 1 ∧ B.slots = P.slots + cs.length) := by
  obtain ⟨A, K1, K2, K3, K4, K5, K6⟩ := K
  have e : A.slots.size = cs.length := K3.trans hlen
  have hat : ∀ (i : Nat) (hi : i < cs.length), A.slots[i]? = some (.int cs[i]) := fun i hi => by rw [K5 i (by omega)]; simp [List.getD_eq_getElem?_getD, hi]
  have hcv : ∀ (i : Nat) (hi : i < cs.length), cv A i = cs[i] := fun i hi => by unfold cv; rw [hat i hi]
  have hty : Typed .char A := fun i v hv => by
    have hi : i < A.slots.size := (Array.getElem?_eq_some_iff.mp hv).1
    have q := K5 i hi
    rw [hv] at q
    rw [Option.some.inj q]
    exact K6 i hi
  refine Back.mono (back hZ hw wi E V C K1 hty S hz (by omega) (by omega) (fun i hi => by rw [hcv i (by omega)]; exact hall _ (List.getElem_mem _)) hfr hlo) (fun P a hp => ⟨hp.1, hp.2.1, hp.2.2.1, by rw [e]; exact hp.2.2.2⟩) (fun P a v B hp hq => ?_)
  obtain ⟨L, ⟨q1, q2, q3, q4, q5, q6, q7, ⟨V', v1, v2, v3, v4, v5⟩, q9⟩, hl, hc, hs⟩ := hq
  refine ⟨L, ⟨q1, q2, q3, q4, q5, q6, q7, ⟨V'.cls, v3, V', v1, rfl, by rw [v4, e, hlen], K4, fun i hi => ?_, fun i hi => ?_⟩, q9⟩, hl, hc, by rw [hs, e]⟩
  · have hi' : i < cs.length := by omega
    rw [v5 i (by omega), hcv i hi']; simp [List.getD_eq_getElem?_getD, hi']
  · have hi' : i < cs.length := by omega
    simp only [List.getD_eq_getElem?_getD, List.getElem?_map, List.getElem?_eq_getElem hi', Option.map_some, Option.getD_some]
    exact fits_lo8 _
end StrChars.Road
namespace StrChars.Road
open Jvm Sem ClassFile Op Lib Jvm.Stand Jvm.Free Jvm.Free.XT
/-- WHAT COMES BACK, in the writer's own shape -/
def QV (Z : State) (x : Addr) (N : Int32) (bs : List Int32) (h : Heap) (n0 : Nat) (v : Option Value) (h' : Heap) (L : List Loc) : Prop := v = none ∧ RoadKit.Fr n0 L ∧ RoadKit.Keep h h' [x] ∧ RoadKit.Exa Z h' x ST ∧ RoadKit.Fld Z h' x ST "coder" "B" (.int 0) ∧
  ∃ (t : Addr) (kb : ClassId), n0 ≤ t ∧ h.size ≤ t ∧ ¬ t = x ∧ RoadKit.Fld Z h' x ST "value" "[B" (.ref t) ∧ RoadKit.Arv Z h' t kb .byte N (bs.map Value.int) (.int 0)
/-- **new String(chars) AT A CALL, FOR THE WRITER**: a char[] of n known ints, each 0 to 255 -/
theorem backV {p : Program} {l : Launch} {e : Env} {R : Room} {s : State} {args : Array Value} {below : List Frame} {len W : Nat} {Z : State} {a0 : Array Value} {h : Heap} (hZ : Z.Warmed39 s.vm) (hw : ∀ d ∈ words, d.before a0 Z = true) {kI : Nat} (wi : (Jvm.Cond.instantiable ST kI).before a0 Z = true)
    {x b : Addr} {kC : ClassId} {cs bs : List Int32} {d v0 c0 : Value} {z N : Int32} {n n0 : Nat} (hx0 : n0 ≤ x) (hh0 : n0 ≤ h.size) (E : RoadKit.Exa Z h x ST) (V : RoadKit.Fld Z h x ST "value" "[B" v0) (C : RoadKit.Fld Z h x ST "coder" "B" c0) (K : RoadKit.Arv Z h b kC .char N (cs.map Value.int) d) (S : RoadKit.Sta Z h ST "COMPACT_STRINGS" "Z" (.int z)) (hz : ¬ z = 0)
    (hn : cs.length = n) (hN : N = Int32.ofNat n) (l0 : 0 < n) (l2 : n ≤ 4000) (hp : ∀ c ∈ cs, ¬ c < 0 ∧ ¬ (255 : Int32) < c) (hb : bs = cs.map (fun c => c.toInt8.toInt32)) (hfr : 4 ≤ R.frames) (hlo : W + 65 ≤ R.locals) :
    Back l R p e below s args (⟨"java/lang/String", "<init>", "([C)V"⟩ : MethodName) len W (fun P a => a = #[.ref x, .ref b] ∧ P.U.heap = h ∧ P.cells + 1 ≤ R.cells ∧ P.slots + n ≤ R.slots)
      (fun P _ v B => ∃ L, QV Z x N bs h n0 v B.U.heap L ∧ B.locs = P.locs ++ L ∧ B.cells = P.cells + 1 ∧ B.slots = P.slots + n) := by
  subst hn hN hb
  refine Back.mono (backArv hZ hw wi E V C K S hz (n32 (by omega)) l0 (by omega) (fun c hc => (hp c hc).2) hfr hlo) (fun P a hp => hp) (fun P a v B hp hq => ?_)
  obtain ⟨L, ⟨q1, q2, q3, q4, q5, q6, q7, ⟨kb, v1, v2⟩, q9⟩, hl, hc, hs⟩ := hq
  exact ⟨L, ⟨q1, fun y hy => by rw [q2 y hy]; exact hx0, q3, q5, q7, h.size, kb, hh0, Nat.le_refl _, Nat.ne_of_gt E.lt, q6, by rw [List.map_map]; exact v2⟩, hl, hc, hs⟩
end StrChars.Road
namespace StrChars
open Jvm Sem ClassFile Op Lib Jvm.Stand Jvm.Free.XT Jvm.Free.ALB Jvm.Free.JM Jvm.Free
open Jvm.Lib.Cold (StaticIs)
def hi8 (x : Int32) : Int32 := lo8 (x >>> ((8 : Int32) &&& 31))
/-- what StringUTF16.getChar makes of two bytes -/
def pairCh (u v : Int32) : Int32 := (((u &&& 255) <<< ((0 : Int32) &&& 31)) ||| ((v &&& 255) <<< ((8 : Int32) &&& 31))).toUInt32.toUInt16.toUInt32.toInt32
theorem shr0 (c : Int32) : c >>> ((0 : Int32) &&& 31) = c := by
  have e : ((0 : Int32) &&& 31) = 0 := by decide
  rw [e]
  apply Int32.toBitVec_inj.mp
  rw [Int32.toBitVec_shiftRight]
  have e1 : ((0 : Int32).toBitVec.smod 32) = 0#32 := by decide
  rw [e1, BitVec.sshiftRight_eq']
  exact BitVec.sshiftRight_zero
theorem lo8_and (x : Int32) : (lo8 x &&& 255).toBitVec.toNat = x.toBitVec.toNat % 256 := by
  have h : (lo8 x).toBitVec = (x.toBitVec.signExtend 8).signExtend 32 := by rw [lo8, Int8.toBitVec_toInt32, Int32.toBitVec_toInt8]
  rw [Int32.toBitVec_and, BitVec.toNat_and, h]
  have e : ((x.toBitVec.signExtend 8).signExtend 32).toNat % 256 = x.toBitVec.toNat % 256 := by
    rw [BitVec.toNat_signExtend]
    have hlt := x.toBitVec.isLt
    simp only [BitVec.toNat_setWidth, BitVec.toNat_signExtend]
    split <;> split <;> omega
  rw [← e]
  exact Nat.and_two_pow_sub_one_eq_mod _ 8
theorem pair_says {c : Int32} (h0 : ¬ c < 0) (h1 : ¬ 65535 < c) : pairCh (lo8 c) (hi8 c) = c := by
  rw [Int32.lt_iff_toInt_lt] at h0 h1
  have e0 : (0 : Int32).toInt = 0 := rfl
  have e1 : (65535 : Int32).toInt = 65535 := rfl
  have hc : c.toInt = c.toBitVec.toNat := by
    have := c.toBitVec.isLt
    have e : c.toInt = c.toBitVec.toInt := rfl
    rw [e] at h0 h1
    rw [e]
    rw [BitVec.toInt_eq_toNat_cond] at h0 h1 ⊢
    split at h0 <;> split <;> omega
  have hn : c.toBitVec.toNat < 65536 := by omega
  have a1 := lo8_and c
  have a2 : (hi8 c &&& 255).toBitVec.toNat = c.toBitVec.toNat / 256 := by
    rw [hi8, lo8_and]
    have e : ((8 : Int32) &&& 31) = 8 := by decide
    rw [e, Int32.toBitVec_shiftRight]
    have e2 : ((8 : Int32).toBitVec.smod 32) = 8#32 := by decide
    rw [e2, BitVec.sshiftRight_eq', BitVec.toNat_sshiftRight_of_msb_false (by rw [BitVec.msb_eq_false_iff_two_mul_lt]; omega)]
    show c.toBitVec.toNat >>> 8 % 256 = _
    rw [Nat.shiftRight_eq_div_pow]
    omega
  unfold pairCh
  apply Int32.toBitVec_inj.mp
  apply BitVec.eq_of_toNat_eq
  have f0 : ((0 : Int32) &&& 31) = 0 := by decide
  have f8 : ((8 : Int32) &&& 31) = 8 := by decide
  rw [f0, f8]
  have g : (((lo8 c &&& 255) <<< (0 : Int32)) ||| ((hi8 c &&& 255) <<< (8 : Int32))).toBitVec.toNat = c.toBitVec.toNat := by
    rw [Int32.toBitVec_or, Int32.toBitVec_shiftLeft, Int32.toBitVec_shiftLeft]
    have s0 : ((0 : Int32).toBitVec.smod 32) = 0#32 := by decide
    have s8 : ((8 : Int32).toBitVec.smod 32) = 8#32 := by decide
    rw [s0, s8, BitVec.toNat_or]
    simp only [BitVec.shiftLeft_eq', BitVec.toNat_shiftLeft, a1, a2]
    show (c.toBitVec.toNat % 256) <<< 0 % 2 ^ 32 ||| (c.toBitVec.toNat / 256) <<< 8 % 2 ^ 32 = _
    rw [Nat.shiftLeft_zero, Nat.mod_eq_of_lt (show c.toBitVec.toNat % 256 < 2 ^ 32 by omega), Nat.mod_eq_of_lt (show (c.toBitVec.toNat / 256) <<< 8 < 2 ^ 32 by rw [Nat.shiftLeft_eq]; omega), Nat.or_comm, ← Nat.shiftLeft_add_eq_or_of_lt (by omega), Nat.shiftLeft_eq]
    omega
  show BitVec.toNat (((((lo8 c &&& 255) <<< (0 : Int32)) ||| ((hi8 c &&& 255) <<< (8 : Int32))).toBitVec.setWidth 16).setWidth 32) = _
  rw [BitVec.toNat_setWidth, BitVec.toNat_setWidth, g]
  omega
end StrChars
namespace StrChars
open Jvm Sem ClassFile Op Lib Jvm.Stand Jvm.Free.XT Jvm.Free.ALB Jvm.Free.JM Jvm.Free
open Jvm.Lib.Cold (StaticIs)
theorem shr1 {n : Nat} (h : 2 * n < 2 ^ 31) : Int32.ofNat (2 * n) >>> ((1 : Int32) &&& 31) = Int32.ofNat n := by
  have e : ((1 : Int32) &&& 31) = 1 := by decide
  rw [e]
  apply Int32.toBitVec_inj.mp
  rw [Int32.toBitVec_shiftRight]
  have e1 : ((1 : Int32).toBitVec.smod 32) = 1#32 := by decide
  have hm : (BitVec.ofNat 32 (2 * n)).toNat = 2 * n := by rw [BitVec.toNat_ofNat, Nat.mod_eq_of_lt (by omega)]
  rw [e1, BitVec.sshiftRight_eq']
  apply BitVec.eq_of_toNat_eq
  show ((BitVec.ofNat 32 (2 * n)).sshiftRight 1).toNat = (BitVec.ofNat 32 n).toNat
  rw [BitVec.toNat_sshiftRight_of_msb_false (by rw [BitVec.msb_eq_false_iff_two_mul_lt, hm]; omega), hm, BitVec.toNat_ofNat, Nat.shiftRight_eq_div_pow]
  omega
/-- charAt's cast of a byte read back -/
def chr8 (u : Int32) : Int32 := (u &&& 255).toUInt32.toUInt16.toUInt32.toInt32
theorem chr8_lo8 {c : Int32} (h0 : ¬ c < 0) (h1 : ¬ 255 < c) : chr8 (lo8 c) = c := by
  have t : ∀ k : Fin 256, (Int32.ofNat k.val).toUInt32.toUInt16.toUInt32.toInt32 = Int32.ofNat k.val := by decide +kernel
  unfold chr8
  rw [lo8_mask h0 h1]
  rw [Int32.lt_iff_toInt_lt] at h0 h1
  have e0 : (0 : Int32).toInt = 0 := rfl
  have e1 : (255 : Int32).toInt = 255 := rfl
  obtain ⟨k, hk⟩ : ∃ k : Nat, c.toInt = k := ⟨c.toInt.toNat, by omega⟩
  have hx : c = Int32.ofNat k := Int32.toInt_inj.mp (by rw [hk, Int32.toInt_ofNat_small (by omega)])
  rw [hx]
  exact t ⟨k, by omega⟩
theorem narrow_ch {c : Int32} (h0 : ¬ c < 0) (h1 : ¬ 65535 < c) : narrow .char (.int c) = .int c := by
  have q : narrow .char (.int (pairCh (lo8 c) (hi8 c))) = .int (pairCh (lo8 c) (hi8 c)) := narrow_c _
  rwa [pair_says h0 h1] at q
/-- the array's cell V codes the n chars f 0 .. f (n - 1) by the coder cd, as the JDK does: coder 1 just where some char is above 255 -/
def Cod (cd : Int32) (n : Nat) (f : Nat → Int32) (V : Cell) : Prop := (cd = 0 ∧ V.slots.size = n ∧ ∀ j, j < n → V.slots[j]? = some (.int (lo8 (f j))) ∧ ¬ 255 < f j) ∨ (cd = 1 ∧ V.slots.size = 2 * n ∧ (∀ j, j < n → V.slots[2 * j]? = some (.int (lo8 (f j))) ∧ V.slots[2 * j + 1]? = some (.int (hi8 (f j)))) ∧ ∃ j, j < n ∧ 255 < f j)
theorem Cod.cd {cd : Int32} {n : Nat} {f : Nat → Int32} {V : Cell} (h : Cod cd n f V) : cd = 0 ∨ cd = 1 := h.imp (fun q => q.1) fun q => q.1
theorem Cod.len {cd : Int32} {n : Nat} {f : Nat → Int32} {V : Cell} (h : Cod cd n f V) (hs : V.slots.size < 2 ^ 31) : Int32.ofNat V.slots.size >>> (cd &&& 31) = Int32.ofNat n := by
  rcases h with ⟨rfl, h, -⟩ | ⟨rfl, h, -⟩
  · rw [shr0, h]
  · rw [h, shr1 (by omega)]
/-- **x is a String of the n chars f 0 .. f (n - 1)**, Latin-1 or UTF-16; its array at t has the cell V -/
def Txt (x t : Addr) (V : Cell) (cd : Int32) (n : Nat) (f : Nat → Int32) (U : State) : Prop := Exact "java/lang/String" x U ∧ Has x "java/lang/String" "value" "[B" (.ref t) U ∧ Has x "java/lang/String" "coder" "B" (.int cd) U ∧ XT.Arr .byte t V U ∧ Cod cd n f V ∧ ∀ j, j < n → ¬ f j < 0 ∧ ¬ 65535 < f j
theorem Txt.mv {x t : Addr} {V : Cell} {cd : Int32} {n : Nat} {f : Nat → Int32} {U U' : State} (h : Txt x t V cd n f U) (hal : U.vm.Alike U'.vm) (hh : U'.heap = U.heap) : Txt x t V cd n f U' := ⟨h.1.mv hal hh, h.2.1.mv hal hh, h.2.2.1.mv hal hh, h.2.2.2.1.mv hal hh, h.2.2.2.2⟩
namespace Cdr
def yN : MethodName := ⟨"java/lang/String", "coder", "()B"⟩
abbrev yB : ByteArray := jdk_42_method_152_code
theorem d0 : decode yB 0 = .ok (.getstatic 38, 3) := by decide +kernel
theorem d3 : decode yB 3 = .ok (.ifCond (.eq) 10, 3) := by decide +kernel
theorem d6 : decode yB 6 = .ok (.aload_n 0, 1) := by decide +kernel
theorem d7 : decode yB 7 = .ok (.getfield 15, 3) := by decide +kernel
theorem d10 : decode yB 10 = .ok (.goto 4, 3) := by decide +kernel
theorem d14 : decode yB 14 = .ok (.ireturn, 1) := by decide +kernel
def site : List Cond := [.fieldLink "java/lang/String" 38 "java/lang/String" "COMPACT_STRINGS" "Z", .fieldLink "java/lang/String" 15 "java/lang/String" "coder" "B"]
def tab : Cond := tabOf yN yB 1 (some .byte) site
def P (x : Addr) (cd z : Int32) (args : Array Value) (s : State) : Prop := args = #[.ref x] ∧ Has x "java/lang/String" "coder" "B" (.int cd) s ∧ (cd = 0 ∨ cd = 1) ∧ StaticIs s "java/lang/String" "COMPACT_STRINGS" "Z" (.int z) ∧ ¬ z = 0
def E (cd : Int32) (r : Option Value) (s u : State) : Prop := XT.PureE (some (.int cd)) r s u
theorem law (l : Launch) (x : Addr) (cd z : Int32) : Law l yN 1 0 0 0 yB 1 (some .byte) site (P x cd z) (E cd) [] 0 0 := by
  refine Law.of_walk (plainFor_of_name (by decide +kernel)) (by decide +kernel) (by decide +kernel) (by decide) (fun _ _ h => by rw [h.1]; rfl) (fun _ U U' hal hh h => ⟨h.1, h.2.1.mv hal hh, h.2.2.1, h.2.2.2.1.there hal hh, h.2.2.2.2⟩) (fun r U U' V V' h1 hal h2 h => XT.PureE.mv r U U' V V' h1 hal h2 h) ?_
  intro p e s m args below meth c s₁ X0 hexec hbytes hml hret hlk hnm hown hh0 W hP
  obtain ⟨rfl, hx, hc, s1, hz⟩ := hP
  have c1 : Steps p.tables e below (s₁.setTop (entryFrame m #[.ref x] 1)) (s₁.setTop (mkF m 0 #[.val (.ref x)] [])) := entry rfl
  obtain ⟨T2, X2, q2, st2⟩ := X0.sget hexec hown (wk W (.fieldLink "java/lang/String" 38 "java/lang/String" "COMPACT_STRINGS" "Z")) s1 (fun _ _ h => by rw [hh0]; exact h) (g := (mkF m 0 #[.val (.ref x)] [])) rfl (hb hbytes d0)
  have hh2 := q2.trans hh0
  have c3 : Steps p.tables e below (s₁.setTop (entryFrame m #[.ref x] 1)) (T2.setTop (mkF m 7 #[.val (.ref x)] [.ref x])) := (c1.trans (st2 _ (Steps.refl _))).trans (by
    refine XS.ifNo X2.here hexec rfl (hb hbytes d3) rfl (i0_eq_f hz) ?_
    refine XS.aloadN X2.here hexec rfl (hb hbytes d6) rfl rfl ?_
    exact Steps.refl _)
  obtain ⟨T4, X4, q4, st4⟩ := X2.hget hexec hown (wk W (.fieldLink "java/lang/String" 15 "java/lang/String" "coder" "B")) (hx.mv X2.warmed.alike hh2) (g := (mkF m 7 #[.val (.ref x)] [.ref x])) rfl (rest := []) rfl (hb hbytes d7)
  have c5 : Steps p.tables e below (s₁.setTop (entryFrame m #[.ref x] 1)) (T4.setTop (mkF m 14 #[.val (.ref x)] [.int cd])) := (c3.trans (st4 _ (Steps.refl _))).trans (by
    refine XS.goto X4.here hexec rfl (pc0 := 10) rfl (hb hbytes d10) (by decide) rfl ?_
    exact Steps.refl _)
  exact ⟨T4, some (.int cd), _, _, _, X4, rfl, rfl, rfl, (fun h => by cases h), ⟨rfl, q4.trans hh2⟩, fun fs hl => c5.trans (X4.ireturnOut hexec hret (by rcases hc with rfl | rfl <;> rfl) (Or.inr (Or.inr (Or.inl rfl))) (hb hbytes d14) hl)⟩
end Cdr
namespace Len
def yN : MethodName := ⟨"java/lang/String", "length", "()I"⟩
abbrev yB : ByteArray := jdk_42_method_54_code
theorem d0 : decode yB 0 = .ok (.aload_n 0, 1) := by decide +kernel
theorem d1 : decode yB 1 = .ok (.getfield 9, 3) := by decide +kernel
theorem d4 : decode yB 4 = .ok (.arraylength, 1) := by decide +kernel
theorem d5 : decode yB 5 = .ok (.aload_n 0, 1) := by decide +kernel
theorem d6 : decode yB 6 = .ok (.invokevirtual 335, 3) := by decide +kernel
theorem d9 : decode yB 9 = .ok (.ishr, 1) := by decide +kernel
theorem d10 : decode yB 10 = .ok (.ireturn, 1) := by decide +kernel
def site : List Cond := [.fieldLink "java/lang/String" 9 "java/lang/String" "value" "[B", Cdr.tab] ++ virtW "java/lang/String" 335 "java/lang/String" Cdr.yN Cdr.yN
def tab : Cond := tabOf yN yB 1 (some .int) site
def P (x t : Addr) (V : Cell) (cd : Int32) (n : Nat) (f : Nat → Int32) (z : Int32) (args : Array Value) (s : State) : Prop := args = #[.ref x] ∧ Txt x t V cd n f s ∧ StaticIs s "java/lang/String" "COMPACT_STRINGS" "Z" (.int z) ∧ ¬ z = 0
def E (n : Nat) (r : Option Value) (s u : State) : Prop := XT.PureE (some (.int (Int32.ofNat n))) r s u
/-- length() of a String of n chars, in either coding -/
theorem law (l : Launch) (x t : Addr) (V : Cell) (cd : Int32) (n : Nat) (f : Nat → Int32) (z : Int32) : Law l yN 1 0 1 13 yB 1 (some .int) site (P x t V cd n f z) (E n) [] 0 0 := by
  refine Law.of_walk (plainFor_of_name (by decide +kernel)) (by decide +kernel) (by decide +kernel) (by decide) (fun _ _ h => by rw [h.1]; rfl) (fun _ U U' hal hh h => ⟨h.1, h.2.1.mv hal hh, h.2.2.1.there hal hh, h.2.2.2⟩) (fun r U U' V V' h1 hal h2 h => XT.PureE.mv r U U' V V' h1 hal h2 h) ?_
  intro p e s m args below meth c s₁ X0 hexec hbytes hml hret hlk hnm hown hh0 W hP
  obtain ⟨rfl, hx, s1, hz⟩ := hP
  have v31 := hx.2.2.2.1.2.2.2
  have c1 : Steps p.tables e below (s₁.setTop (entryFrame m #[.ref x] 1)) (s₁.setTop (mkF m 1 #[.val (.ref x)] [.ref x])) := Steps.trans (entry rfl) (by
    show Steps p.tables e below (s₁.setTop (mkF m 0 #[.val (.ref x)] [])) _
    refine XS.aloadN X0.here hexec rfl (hb hbytes d0) rfl rfl ?_
    exact Steps.refl _)
  obtain ⟨T2, X2, q2, st2⟩ := X0.hget hexec hown (wk W (.fieldLink "java/lang/String" 9 "java/lang/String" "value" "[B")) (hx.mv X0.warmed.alike hh0).2.1 (g := (mkF m 1 #[.val (.ref x)] [.ref x])) rfl (rest := []) rfl (hb hbytes d1)
  have hh2 := q2.trans hh0
  have hx2 := hx.mv X2.warmed.alike hh2
  have c3 : Steps p.tables e below (s₁.setTop (entryFrame m #[.ref x] 1)) (T2.setTop (mkF m 6 #[.val (.ref x)] [.ref x, .int (Int32.ofNat V.slots.size)])) := (c1.trans (st2 _ (Steps.refl _))).trans (by
    refine X2.alen hexec hx2.2.2.2.1 rfl rfl (hb hbytes d4) ?_
    refine XS.aloadN X2.here hexec rfl (hb hbytes d5) rfl rfl ?_
    exact Steps.refl _)
  obtain ⟨v4, T4, X4, E4, g4⟩ := X2.callV hexec (Cdr.law l x cd z) hown (wks W (virtW "java/lang/String" 335 "java/lang/String" Cdr.yN Cdr.yN)) rfl (by decide) (wk W Cdr.tab) (W := 1) (Nat.le_of_ble_eq_true rfl) (Nat.le_of_ble_eq_true rfl) (Nat.le_refl _) (Nat.le_refl _) (hx2.1.fc X2.warmed.alike) hx2.1.is (g := (mkF m 6 #[.val (.ref x)] [.ref x, .int (Int32.ofNat V.slots.size)])) rfl (by rw [hml]; rfl) c3 (argsL := []) (rest := [.int (Int32.ofNat V.slots.size)]) rfl rfl (by show 2 * 0 + (1 + 0) ≤ _; decide) (hb hbytes d6) (⟨rfl, hx2.2.2.1, hx.2.2.2.2.1.cd, s1.there X2.warmed.alike hh2, hz⟩)
  obtain ⟨rfl, q4⟩ := E4
  have c5 : Steps p.tables e below (s₁.setTop (entryFrame m #[.ref x] 1)) (T4.setTop (mkF m 10 #[.val (.ref x)] [.int (Int32.ofNat V.slots.size >>> (cd &&& 31))])) := Steps.trans g4 (by
    refine ishr X4.here hexec rfl (hb hbytes d9) rfl ?_
    exact Steps.refl _)
  rw [hx.2.2.2.2.1.len v31] at c5
  exact ⟨T4, some (.int (Int32.ofNat n)), _, _, _, X4, rfl, rfl, rfl, (fun h => by cases h), ⟨rfl, q4.trans hh2⟩, fun fs hl => c5.trans (X4.ireturnOut hexec hret rfl (Or.inl rfl) (hb hbytes d10) hl)⟩
theorem pays {l : Launch} {R : Room} {p : Program} {e : Env} {below : List Frame} {s : State} {sargs : Array Value} {len W : Nat} (x t : Addr) (V : Cell) (cd : Int32) (n : Nat) (f : Nat → Int32) (z : Int32) (htab : tab.before sargs s = true) (hfr : 2 ≤ R.frames) (hlo : W + 25 ≤ R.locals) :
    Back l R p e below s sargs yN len W (fun A₁ a₁ => A₁.cells + 0 ≤ R.cells ∧ A₁.slots + 0 ≤ R.slots ∧ P x t V cd n f z a₁ A₁.U) (fun A₁ _ v₁ B₁ => E n v₁ A₁.U B₁.U ∧ B₁.locs = A₁.locs ++ [] ∧ B₁.cells = A₁.cells + 0 ∧ B₁.slots = A₁.slots + 0) :=
  (law l x t V cd n f z).pays htab hfr (by omega)
end Len
namespace IsL
def yN : MethodName := ⟨"java/lang/String", "isLatin1", "()Z"⟩
abbrev yB : ByteArray := jdk_42_method_154_code
theorem d0 : decode yB 0 = .ok (.getstatic 38, 3) := by decide +kernel
theorem d3 : decode yB 3 = .ok (.ifCond (.eq) 14, 3) := by decide +kernel
theorem d6 : decode yB 6 = .ok (.aload_n 0, 1) := by decide +kernel
theorem d7 : decode yB 7 = .ok (.getfield 15, 3) := by decide +kernel
theorem d10 : decode yB 10 = .ok (.ifCond (.ne) 7, 3) := by decide +kernel
theorem d13 : decode yB 13 = .ok (.iconst 1, 1) := by decide +kernel
theorem d14 : decode yB 14 = .ok (.goto 4, 3) := by decide +kernel
theorem d17 : decode yB 17 = .ok (.iconst 0, 1) := by decide +kernel
theorem d18 : decode yB 18 = .ok (.ireturn, 1) := by decide +kernel
def site : List Cond := [.fieldLink "java/lang/String" 38 "java/lang/String" "COMPACT_STRINGS" "Z", .fieldLink "java/lang/String" 15 "java/lang/String" "coder" "B"]
def tab : Cond := tabOf yN yB 1 (some .boolean) site
def P (x : Addr) (cd z : Int32) (args : Array Value) (s : State) : Prop := args = #[.ref x] ∧ Has x "java/lang/String" "coder" "B" (.int cd) s ∧ (cd = 0 ∨ cd = 1) ∧ StaticIs s "java/lang/String" "COMPACT_STRINGS" "Z" (.int z) ∧ ¬ z = 0
def E (cd : Int32) (r : Option Value) (s u : State) : Prop := XT.PureE (some (.int (1 - cd))) r s u
theorem law (l : Launch) (x : Addr) (cd z : Int32) : Law l yN 1 0 0 0 yB 1 (some .boolean) site (P x cd z) (E cd) [] 0 0 := by
  refine Law.of_walk (plainFor_of_name (by decide +kernel)) (by decide +kernel) (by decide +kernel) (by decide) (fun _ _ h => by rw [h.1]; rfl) (fun _ U U' hal hh h => ⟨h.1, h.2.1.mv hal hh, h.2.2.1, h.2.2.2.1.there hal hh, h.2.2.2.2⟩) (fun r U U' V V' h1 hal h2 h => XT.PureE.mv r U U' V V' h1 hal h2 h) ?_
  intro p e s m args below meth c s₁ X0 hexec hbytes hml hret hlk hnm hown hh0 W hP
  obtain ⟨rfl, hx, hc, s1, hz⟩ := hP
  have c1 : Steps p.tables e below (s₁.setTop (entryFrame m #[.ref x] 1)) (s₁.setTop (mkF m 0 #[.val (.ref x)] [])) := entry rfl
  obtain ⟨T2, X2, q2, st2⟩ := X0.sget hexec hown (wk W (.fieldLink "java/lang/String" 38 "java/lang/String" "COMPACT_STRINGS" "Z")) s1 (fun _ _ h => by rw [hh0]; exact h) (g := (mkF m 0 #[.val (.ref x)] [])) rfl (hb hbytes d0)
  have hh2 := q2.trans hh0
  have c3 : Steps p.tables e below (s₁.setTop (entryFrame m #[.ref x] 1)) (T2.setTop (mkF m 7 #[.val (.ref x)] [.ref x])) := (c1.trans (st2 _ (Steps.refl _))).trans (by
    refine XS.ifNo X2.here hexec rfl (hb hbytes d3) rfl (i0_eq_f hz) ?_
    refine XS.aloadN X2.here hexec rfl (hb hbytes d6) rfl rfl ?_
    exact Steps.refl _)
  obtain ⟨T4, X4, q4, st4⟩ := X2.hget hexec hown (wk W (.fieldLink "java/lang/String" 15 "java/lang/String" "coder" "B")) (hx.mv X2.warmed.alike hh2) (g := (mkF m 7 #[.val (.ref x)] [.ref x])) rfl (rest := []) rfl (hb hbytes d7)
  have c5 : Steps p.tables e below (s₁.setTop (entryFrame m #[.ref x] 1)) (T4.setTop (mkF m 10 #[.val (.ref x)] [.int cd])) := c3.trans (st4 _ (Steps.refl _))
  have c6 : Steps p.tables e below (s₁.setTop (entryFrame m #[.ref x] 1)) (T4.setTop (mkF m 18 #[.val (.ref x)] [.int (1 - cd)])) := by
    rcases hc with rfl | rfl
    · exact c5.trans (by
        refine XS.ifNo X4.here hexec rfl (hb hbytes d10) rfl (i0_ne_f rfl) ?_
        refine iconstV X4.here hexec rfl 1 (hb hbytes d13) (by decide) ?_
        refine XS.goto X4.here hexec rfl (pc0 := 14) rfl (hb hbytes d14) (by decide) rfl ?_
        exact Steps.refl _)
    · exact c5.trans (by
        refine XS.ifYes X4.here hexec rfl (pc0 := 10) rfl (hb hbytes d10) rfl (i0_ne_t (by decide)) (by decide) rfl ?_
        refine iconstV X4.here hexec rfl 0 (hb hbytes d17) (by decide) ?_
        exact Steps.refl _)
  exact ⟨T4, some (.int (1 - cd)), _, _, _, X4, rfl, rfl, rfl, (fun h => by cases h), ⟨rfl, q4.trans hh2⟩, fun fs hl => c6.trans (X4.ireturnOut hexec hret (by rcases hc with rfl | rfl <;> rfl) (Or.inr (Or.inl rfl)) (hb hbytes d18) hl)⟩
end IsL
namespace LChA
def yN : MethodName := ⟨"java/lang/StringLatin1", "charAt", "([BI)C"⟩
abbrev yB : ByteArray := jdk_43_method_2_code
theorem d0 : decode yB 0 = .ok (.iload_n 1, 1) := by decide +kernel
theorem d1 : decode yB 1 = .ok (.aload_n 0, 1) := by decide +kernel
theorem d2 : decode yB 2 = .ok (.arraylength, 1) := by decide +kernel
theorem d3 : decode yB 3 = .ok (.invokestatic 9, 3) := by decide +kernel
theorem d6 : decode yB 6 = .ok (.aload_n 0, 1) := by decide +kernel
theorem d7 : decode yB 7 = .ok (.iload_n 1, 1) := by decide +kernel
theorem d8 : decode yB 8 = .ok (.baload, 1) := by decide +kernel
theorem d9 : decode yB 9 = .ok (.sipush 255, 3) := by decide +kernel
theorem d12 : decode yB 12 = .ok (.iand, 1) := by decide +kernel
theorem d13 : decode yB 13 = .ok (.i2c, 1) := by decide +kernel
theorem d14 : decode yB 14 = .ok (.ireturn, 1) := by decide +kernel
def site : List Cond := [JO.Str_checkIndex.tab] ++ staticW "java/lang/StringLatin1" 9 JO.Str_checkIndex.yN
def tab : Cond := tabOf yN yB 2 (some .char) site
def P (t : Addr) (V : Cell) (i : Nat) (u : Int32) (fm : Value) (args : Array Value) (s : State) : Prop := args = #[.ref t, .int (Int32.ofNat i)] ∧ XT.Arr .byte t V s ∧ V.slots[i]? = some (.int u) ∧ (StaticIs s "jdk/internal/util/Preconditions" "SIOOBE_FORMATTER" "Ljava/util/function/BiFunction;" fm ∧ fm.isRef = true)
def E (u : Int32) (r : Option Value) (s w : State) : Prop := XT.PureE (some (.int (chr8 u))) r s w
theorem law (l : Launch) (t : Addr) (V : Cell) (i : Nat) (u : Int32) (fm : Value) : Law l yN 2 2 2 27 yB 2 (some .char) site (P t V i u fm) (E u) [] 0 0 := by
  refine Law.of_walk (plainFor_of_name (by decide +kernel)) (by decide +kernel) (by decide +kernel) (by decide) (fun _ _ h => by rw [h.1]; rfl) (fun _ U U' hal hh h => ⟨h.1, h.2.1.mv hal hh, h.2.2.1, h.2.2.2.1.there hal hh, h.2.2.2.2⟩) (fun r U U' V V' h1 hal h2 h => XT.PureE.mv r U U' V V' h1 hal h2 h) ?_
  intro p e s m args below meth c s₁ X0 hexec hbytes hml hret hlk hnm hown hh0 W hP
  obtain ⟨rfl, hV, hu, s1, rf⟩ := hP
  have v31 := hV.2.2.2
  have hi : i < V.slots.size := (Array.getElem?_eq_some_iff.mp hu).1
  have c1 : Steps p.tables e below (s₁.setTop (entryFrame m #[.ref t, .int (Int32.ofNat i)] 2)) (s₁.setTop (mkF m 0 #[.val (.ref t), .val (.int (Int32.ofNat i))] [])) := entry rfl
  have c2 : Steps p.tables e below (s₁.setTop (entryFrame m #[.ref t, .int (Int32.ofNat i)] 2)) (s₁.setTop (mkF m 3 #[.val (.ref t), .val (.int (Int32.ofNat i))] [.int (Int32.ofNat V.slots.size), .int (Int32.ofNat i)])) := c1.trans (by
    refine XS.iloadN X0.here hexec rfl (hb hbytes d0) rfl ?_
    refine XS.aloadN X0.here hexec rfl (hb hbytes d1) rfl rfl ?_
    refine X0.alen hexec (hV.mv X0.warmed.alike hh0) rfl rfl (hb hbytes d2) ?_
    exact Steps.refl _)
  obtain ⟨v3, T3, X3, E3, g3⟩ := X0.callS hexec (JO.Str_checkIndex.law l (Int32.ofNat i) (Int32.ofNat V.slots.size) fm) hown (wks W (staticW "java/lang/StringLatin1" 9 JO.Str_checkIndex.yN)) (wk W JO.Str_checkIndex.tab) (W := 0) (Nat.le_of_ble_eq_true rfl) (Nat.le_of_ble_eq_true rfl) (Nat.le_refl _) (Nat.le_refl _) (g := (mkF m 3 #[.val (.ref t), .val (.int (Int32.ofNat i))] [.int (Int32.ofNat V.slots.size), .int (Int32.ofNat i)])) rfl (by rw [hml]; rfl) c2 (argsL := [.int (Int32.ofNat i), .int (Int32.ofNat V.slots.size)]) (rest := []) rfl rfl (by show 2 * 0 + 0 ≤ _; decide) (hb hbytes d3) (⟨rfl, rf, s1.there X0.warmed.alike hh0, Int32.ofNat_not_neg (by omega), lt32 v31 hi⟩)
  obtain ⟨rfl, q3⟩ := E3
  have hh3 := q3.trans hh0
  have c4 : Steps p.tables e below (s₁.setTop (entryFrame m #[.ref t, .int (Int32.ofNat i)] 2)) (T3.setTop (mkF m 14 #[.val (.ref t), .val (.int (Int32.ofNat i))] [.int (chr8 u)])) := Steps.trans g3 (by
    refine XS.aloadN X3.here hexec rfl (hb hbytes d6) rfl rfl ?_
    refine XS.iloadN X3.here hexec rfl (hb hbytes d7) rfl ?_
    refine X3.aget hexec (hV.mv X3.warmed.alike hh3) rfl hu rfl rfl (hb hbytes d8) ?_
    refine sipushV X3.here hexec rfl 255 (hb hbytes d9) (by decide) ?_
    refine XS.iand X3.here hexec rfl (hb hbytes d12) rfl ?_
    refine i2c X3.here hexec rfl (hb hbytes d13) rfl ?_
    exact Steps.refl _)
  exact ⟨T3, some (.int (chr8 u)), _, _, _, X3, rfl, rfl, rfl, (fun h => by cases h), ⟨rfl, hh3⟩, fun fs hl => c4.trans (X3.ireturnOut hexec hret (narrow_c _) (Or.inr (Or.inr (Or.inr (Or.inl rfl)))) (hb hbytes d14) hl)⟩
end LChA
end StrChars
namespace StrChars.Road
open Jvm Sem ClassFile Op Lib Jvm.Stand Jvm.Free Jvm.Free.XT
open Jvm.Lib.Cold (StaticIs)
theorem consq {a : Array Value} {s : State} {c : Jvm.Cond} {L : List Jvm.Cond} (h0 : c.before a s = true) (h : ∀ w ∈ L, w.before a s = true) : ∀ w ∈ c :: L, w.before a s = true := fun w hw => (List.mem_cons.mp hw).elim (fun e => e ▸ h0) (h w)
/-- the words of String.length(), either coding -/
abbrev wordsLen : List Jvm.Cond := [.code Len.yN Len.yB 1 (some .int), .initialized ST, .fieldLink ST 9 ST "value" "[B", .fieldLink ST 38 ST "COMPACT_STRINGS" "Z", .fieldLink ST 15 ST "coder" "B", .code Cdr.yN Cdr.yB 1 (some .byte), .methodLink ST 335 Cdr.yN, .declares Cdr.yN, .selects ST Cdr.yN Cdr.yN, .instanceMethod Cdr.yN]
theorem tabLen_of {a : Array Value} {s : State} (h : ∀ w ∈ wordsLen, w.before a s = true) : Len.tab.before a s = true := by
  have hc : Cdr.tab.before a s = true := unparts (wk h (.code Cdr.yN Cdr.yB 1 (some .byte))) (wks h (.initialized Cdr.yN.cls :: Cdr.site))
  have q := consq hc h
  exact unparts (wk q (.code Len.yN Len.yB 1 (some .int))) (wks q (.initialized Len.yN.cls :: Len.site))
theorem movedLen {Z s : State} {a0 args : Array Value} (hZ : Z.Warmed39 s.vm) (hw : ∀ d ∈ wordsLen, d.before a0 Z = true) : ∀ d ∈ wordsLen, d.before args s = true := fun d hd => by
  have q := hw d hd
  have t : ∀ d ∈ wordsLen, d = .arrayClass .byte ∨ (d.onTables && d.keepsFace) = true := by decide +kernel
  rcases t d hd with rfl | t
  · exact RoadKit.mvA hZ q
  · exact RoadKit.mv hZ q t
/-- the bytes of the chars cs, low before high -/
def wideBytes : List Int32 → List Value
  | [] => []
  | c :: cs => .int (lo8 c) :: .int (hi8 c) :: wideBytes cs
theorem wide_lo (d : Value) : ∀ (cs : List Int32) (j : Nat), j < cs.length → (wideBytes cs).getD (2 * j) d = .int (lo8 (cs.getD j 0))
  | [], j, h => absurd h (Nat.not_lt_zero j)
  | c :: cs, 0, _ => rfl
  | c :: cs, j + 1, h => by
    have q := wide_lo d cs j (by simpa using h)
    rw [show 2 * (j + 1) = 2 * j + 1 + 1 from by omega]
    simpa [wideBytes] using q
theorem wide_hi (d : Value) : ∀ (cs : List Int32) (j : Nat), j < cs.length → (wideBytes cs).getD (2 * j + 1) d = .int (hi8 (cs.getD j 0))
  | [], j, h => absurd h (Nat.not_lt_zero j)
  | c :: cs, 0, _ => rfl
  | c :: cs, j + 1, h => by
    have q := wide_hi d cs j (by simpa using h)
    rw [show 2 * (j + 1) + 1 = 2 * j + 1 + 1 + 1 from by omega]
    simpa [wideBytes] using q
theorem low_at (d : Value) (cs : List Int32) (j : Nat) (h : j < cs.length) : (cs.map fun c => Value.int (lo8 c)).getD j d = .int (lo8 (cs.getD j 0)) := by
  simp [List.getD_eq_getElem?_getD, h]
/-- an array of N2 bytes vs codes the chars cs by the coder cd -/
def CodA (cs : List Int32) (cd N2 : Int32) (vs : List Value) : Prop := (cd = 0 ∧ N2 = Int32.ofNat cs.length ∧ vs = (cs.map fun c => Value.int (lo8 c)) ∧ ∀ c ∈ cs, ¬ 255 < c) ∨ (cd = 1 ∧ N2 = Int32.ofNat (2 * cs.length) ∧ vs = wideBytes cs ∧ ∃ c ∈ cs, 255 < c)
theorem CodA.cod {cs : List Int32} {cd N2 : Int32} {vs : List Value} {V : Cell} (h : CodA cs cd N2 vs) (hn : 2 * cs.length < 2 ^ 31) (hs : V.slots.size = N2.toNatClampNeg) (hv : RoadKit.Has V vs (.int 0)) : Cod cd cs.length (fun j => cs.getD j 0) V := by
  rcases h with ⟨rfl, rfl, rfl, h⟩ | ⟨rfl, rfl, rfl, c, hc, hw⟩
  · rw [n32 (by omega)] at hs
    exact Or.inl ⟨rfl, hs, fun j hj => ⟨by rw [hv j (by omega), low_at _ _ _ hj], by
      have e : cs.getD j 0 = cs[j] := by simp [List.getD_eq_getElem?_getD, hj]
      show ¬ 255 < cs.getD j 0
      rw [e]; exact h _ (List.getElem_mem _)⟩⟩
  · rw [n32 (by omega)] at hs
    obtain ⟨j, hj, rfl⟩ := List.getElem_of_mem hc
    exact Or.inr ⟨rfl, hs, fun j hj => ⟨by rw [hv _ (by omega), wide_lo _ _ _ hj], by rw [hv _ (by omega), wide_hi _ _ _ hj]⟩, j, hj, by
      have e : cs.getD j 0 = cs[j] := by simp [List.getD_eq_getElem?_getD, hj]
      show 255 < cs.getD j 0
      rw [e]; exact hw⟩
/-- an object of exactly java/lang/String, its two fields found: as the laws ask it -/
theorem strObj {Z U : State} {a0 : Array Value} {kI : Nat} (wi : (Jvm.Cond.instantiable ST kI).before a0 Z = true) (al : Z.vm.Alike U.vm) {x : Addr} {v0 c0 : Value} (E : RoadKit.Exa Z U.heap x ST) (V : RoadKit.Fld Z U.heap x ST "value" "[B" v0) (C : RoadKit.Fld Z U.heap x ST "coder" "B" c0) :
    ∃ (D : Cell) (fV fC : Field), Blank ST x D U ∧ Found ST "value" "[B" fV U ∧ Found ST "coder" "B" fC U ∧ D.slots[fV.slot]? = some v0 ∧ D.slots[fC.slot]? = some c0 ∧ RoadKit.slotOf Z ST "value" "[B" = fV.slot ∧ RoadKit.slotOf Z ST "coder" "B" = fC.slot := by
  obtain ⟨D, cfV, kV, iV, fV, hD, gV, stV, knV, obV, asV, slV⟩ := V
  obtain ⟨D', cfC, kC, iC, fC, hD', gC, stC, -, -, asC, slC⟩ := C
  cases hD.symm.trans hD'
  obtain ⟨D2, kD, e1, e2, e3, e4, e5⟩ := E
  cases hD.symm.trans e1
  obtain ⟨c2, k2, i1, i2, i3, -⟩ := Cond.instantiable_spec wi
  cases e2.symm.trans i1
  cases e3.symm.trans i2
  obtain ⟨kU, u1, u2⟩ := al.2.2 _ _ e3
  exact ⟨D, fV, fC, ⟨hD, ⟨knV, fun q hq => by rw [hq] at obV; cases obV⟩, by rw [al.findClass]; exact e2, kU, u1, by rw [u2]; exact i3, by rw [u2]; exact e5 i3⟩, ⟨SBG.found_only al ⟨cfV, kV, iV, gV⟩, stV⟩, ⟨SBG.found_only al ⟨cfC, kC, iC, gC⟩, stC⟩, slV, slC, by simp [RoadKit.slotOf, gV], by simp [RoadKit.slotOf, gC]⟩
theorem sta_is {Z U : State} (al : Z.vm.Alike U.vm) {C n d : String} {v : Value} (S : RoadKit.Sta Z U.heap C n d v) : StaticIs U C n d v := by
  obtain ⟨cfS, iS, kS, fS, st, cS, t1, t2, t3, t4, t5, t6, t7⟩ := S
  exact StaticIs.there (s := { Z with heap := U.heap }) ⟨cfS, iS, kS, fS, st, cS, t1, t2, t3, t4, t5, (fun q => by rw [q] at t6; cases t6), t7⟩ al rfl
/-- **length() OF SUCH A STRING** -/
theorem lenW {p : Program} {l : Launch} {e : Env} {R : Room} {s : State} {args : Array Value} {below : List Frame} {len W : Nat} {Z : State} {a0 : Array Value} {h : Heap} (hZ : Z.Warmed39 s.vm) (hw : ∀ d ∈ wordsLen, d.before a0 Z = true) {kI : Nat} (wi : (Jvm.Cond.instantiable ST kI).before a0 Z = true)
    {x t : Addr} {kb : ClassId} {cs : List Int32} {cd N2 z : Int32} {vs : List Value} (E : RoadKit.Exa Z h x ST) (V : RoadKit.Fld Z h x ST "value" "[B" (.ref t)) (C : RoadKit.Fld Z h x ST "coder" "B" (.int cd)) (K : RoadKit.Arv Z h t kb .byte N2 vs (.int 0)) (hc : CodA cs cd N2 vs) (hb : ∀ c ∈ cs, ¬ c < 0 ∧ ¬ (65535 : Int32) < c)
    (S : RoadKit.Sta Z h ST "COMPACT_STRINGS" "Z" (.int z)) (hz : ¬ z = 0) (l2 : cs.length ≤ 4000) (hfr : 2 ≤ R.frames) (hlo : W + 25 ≤ R.locals) :
    Back l R p e below s args (⟨"java/lang/String", "length", "()I"⟩ : MethodName) len W (fun P a => a = #[.ref x] ∧ P.U.heap = h ∧ P.cells + 0 ≤ R.cells ∧ P.slots + 0 ≤ R.slots)
      (fun P _ v B => ∃ L, (v = some (.int (Int32.ofNat cs.length)) ∧ L = [] ∧ B.U.heap = h) ∧ B.locs = P.locs ++ L ∧ B.cells = P.cells + 0 ∧ B.slots = P.slots + 0) := by
  obtain ⟨A, K1, K2, K3, K4, K5, K6⟩ := K
  have hcod := hc.cod (by omega) K3 K5
  intro m meth c P g ig mk a X hg hsize hdg hW hn hp'
  obtain ⟨rfl, rfl, r1, r2⟩ := hp'
  have al : Z.vm.Alike P.U.vm := hZ.alike.trans X.warmed.alike
  obtain ⟨D, fV, fC, hB, F1, F2, g1, g2, -, -⟩ := strObj wi al E V C
  have hx : Txt x t A cd cs.length (fun j => cs.getD j 0) P.U := ⟨⟨_, hB.2.2.1, D, hB.1, rfl, by cases q : D.vm <;> first | rfl | exact absurd q (hB.2.1.2 _)⟩, Has.of hB F1 g1, Has.of hB F2 g2, ⟨K1.1, State.isArrayOf_alike al K1.2.1, K1.2.2, by rcases hcod with ⟨-, q, -⟩ | ⟨-, q, -⟩ <;> omega⟩, hcod, fun j hj => by
    have e : cs.getD j 0 = cs[j] := by simp [List.getD_eq_getElem?_getD, hj]
    show ¬ cs.getD j 0 < 0 ∧ ¬ 65535 < cs.getD j 0
    rw [e]; exact hb _ (List.getElem_mem _)⟩
  obtain ⟨v, B, X', ⟨⟨hv, hh⟩, hl, hk, hs⟩, st⟩ := Len.pays x t A cd cs.length (fun j => cs.getD j 0) z (tabLen_of (movedLen hZ hw)) hfr hlo m meth c P g ig mk _ X hg hsize hdg hW hn ⟨r1, r2, rfl, hx, sta_is al S, hz⟩
  exact ⟨v, B, X', ⟨[], ⟨hv, rfl, hh⟩, hl, hk, hs⟩, st⟩
end StrChars.Road
namespace StrChars
open Jvm Sem ClassFile Op Lib Jvm.Stand Jvm.Free.XT Jvm.Free.ALB Jvm.Free.JM Jvm.Free
open Jvm.Lib.Cold (StaticIs)
/-- what place i of a byte[]'s cell holds -/
def yv (A : Cell) (i : Nat) : Int32 := match A.slots[i]? with | some (.int x) => x | _ => 0
theorem yv_get {a : Addr} {A : Cell} {U : State} (h : XT.Arr .byte a A U) (ht : Typed .byte A) {i : Nat} (hi : i < A.slots.size) : A.slots[i]? = some (.int (yv A i)) := by
  have e := Array.getElem?_eq_getElem hi
  have f := ht i _ e
  unfold yv; rw [e]
  generalize A.slots[i] = v at f
  cases v <;> simp [fits] at f ⊢
/-- the two arrays are equal, place for place -/
def EqC (A B : Cell) : Prop := A.slots.size = B.slots.size ∧ ∀ i, i < A.slots.size → yv A i = yv B i
/-- a boolean that says whether p -/
def Says01 (q : Prop) (r : Option Value) (s u : State) : Prop := ∃ v : Int32, r = some (.int v) ∧ u.heap = s.heap ∧ ((v = 1 ∧ q) ∨ (v = 0 ∧ ¬ q))
theorem Says01.mv {q : Prop} : ∀ r (U U' V V' : State), U'.heap = U.heap → V.vm.Alike V'.vm → V'.heap = V.heap → Says01 q r U V → Says01 q r U' V' :=
  fun r U U' V V' h1 _ h2 ⟨v, a, b, c⟩ => ⟨v, a, by rw [h1, h2]; exact b, c⟩
namespace LEq
def yN : MethodName := ⟨"java/lang/StringLatin1", "equals", "([B[B)Z"⟩
abbrev yB : ByteArray := jdk_43_method_13_code
theorem d0 : decode yB 0 = .ok (.aload_n 0, 1) := by decide +kernel
theorem d1 : decode yB 1 = .ok (.arraylength, 1) := by decide +kernel
theorem d2 : decode yB 2 = .ok (.aload_n 1, 1) := by decide +kernel
theorem d3 : decode yB 3 = .ok (.arraylength, 1) := by decide +kernel
theorem d4 : decode yB 4 = .ok (.if_icmp (.ne) 30, 3) := by decide +kernel
theorem d7 : decode yB 7 = .ok (.iconst 0, 1) := by decide +kernel
theorem d8 : decode yB 8 = .ok (.istore_n 2, 1) := by decide +kernel
theorem d9 : decode yB 9 = .ok (.iload_n 2, 1) := by decide +kernel
theorem d10 : decode yB 10 = .ok (.aload_n 0, 1) := by decide +kernel
theorem d11 : decode yB 11 = .ok (.arraylength, 1) := by decide +kernel
theorem d12 : decode yB 12 = .ok (.if_icmp (.ge) 20, 3) := by decide +kernel
theorem d15 : decode yB 15 = .ok (.aload_n 0, 1) := by decide +kernel
theorem d16 : decode yB 16 = .ok (.iload_n 2, 1) := by decide +kernel
theorem d17 : decode yB 17 = .ok (.baload, 1) := by decide +kernel
theorem d18 : decode yB 18 = .ok (.aload_n 1, 1) := by decide +kernel
theorem d19 : decode yB 19 = .ok (.iload_n 2, 1) := by decide +kernel
theorem d20 : decode yB 20 = .ok (.baload, 1) := by decide +kernel
theorem d21 : decode yB 21 = .ok (.if_icmp (.eq) 5, 3) := by decide +kernel
theorem d24 : decode yB 24 = .ok (.iconst 0, 1) := by decide +kernel
theorem d25 : decode yB 25 = .ok (.ireturn, 1) := by decide +kernel
theorem d26 : decode yB 26 = .ok (.iinc 2 1, 3) := by decide +kernel
theorem d29 : decode yB 29 = .ok (.goto (-20), 3) := by decide +kernel
theorem d32 : decode yB 32 = .ok (.iconst 1, 1) := by decide +kernel
theorem d33 : decode yB 33 = .ok (.ireturn, 1) := by decide +kernel
theorem d34 : decode yB 34 = .ok (.iconst 0, 1) := by decide +kernel
theorem d35 : decode yB 35 = .ok (.ireturn, 1) := by decide +kernel
def site : List Cond := []
def tab : Cond := tabOf yN yB 3 (some .boolean) site
def P (a : Addr) (A : Cell) (b : Addr) (B : Cell) (args : Array Value) (s : State) : Prop := args = #[.ref a, .ref b] ∧ XT.Arr .byte a A s ∧ Typed .byte A ∧ XT.Arr .byte b B s ∧ Typed .byte B
/-- whether two byte[] are equal, place for place -/
theorem law (l : Launch) (a : Addr) (A : Cell) (b : Addr) (B : Cell) : Law l yN 2 2 0 0 yB 3 (some .boolean) site (P a A b B) (Says01 (EqC A B)) [] 0 0 := by
  refine Law.of_walk (plainFor_of_name (by decide +kernel)) (by decide +kernel) (by decide +kernel) (by decide) (fun _ _ h => by rw [h.1]; rfl) (fun _ U U' hal hh h => ⟨h.1, h.2.1.mv hal hh, h.2.2.1, h.2.2.2.1.mv hal hh, h.2.2.2.2⟩) (fun r U U' V V' h1 hal h2 h => Says01.mv r U U' V V' h1 hal h2 h) ?_
  intro p e s m args below meth c s₁ X0 hexec hbytes hml hret hlk hnm hown hh0 W hP
  obtain ⟨rfl, hA, tA, hB, tB⟩ := hP
  have a31 := hA.2.2.2
  have b31 := hB.2.2.2
  have hA0 := hA.mv X0.warmed.alike hh0
  have hB0 := hB.mv X0.warmed.alike hh0
  have c1 : Steps p.tables e below (s₁.setTop (entryFrame m #[.ref a, .ref b] 3)) (s₁.setTop (mkF m 0 #[.val (.ref a), .val (.ref b), .unset] [])) := entry rfl
  have c2 : Steps p.tables e below (s₁.setTop (entryFrame m #[.ref a, .ref b] 3)) (s₁.setTop (mkF m 4 #[.val (.ref a), .val (.ref b), .unset] [.int (Int32.ofNat B.slots.size), .int (Int32.ofNat A.slots.size)])) := c1.trans (by
    refine XS.aloadN X0.here hexec rfl (hb hbytes d0) rfl rfl ?_
    refine X0.alen hexec hA0 rfl rfl (hb hbytes d1) ?_
    refine XS.aloadN X0.here hexec rfl (hb hbytes d2) rfl rfl ?_
    refine X0.alen hexec hB0 rfl rfl (hb hbytes d3) ?_
    exact Steps.refl _)
  by_cases hs : A.slots.size = B.slots.size
  · have c3 : Steps p.tables e below (s₁.setTop (entryFrame m #[.ref a, .ref b] 3)) (s₁.setTop (mkF m 9 #[.val (.ref a), .val (.ref b), .val (.int 0)] [])) := c2.trans (by
      refine XS.icmpNo X0.here hexec rfl (hb hbytes d4) rfl (ii_ne_f (by rw [hs])) ?_
      refine iconstV X0.here hexec rfl 0 (hb hbytes d7) (by decide) ?_
      refine XS.istoreN X0.here hexec rfl (hb hbytes d8) rfl rfl ?_
      exact Steps.refl _)
    have loop : ∀ (r i : Nat), i + r = A.slots.size → (∀ j, j < i → yv A j = yv B j) → Steps p.tables e below (s₁.setTop (entryFrame m #[.ref a, .ref b] 3)) (s₁.setTop (mkF m 9 #[.val (.ref a), .val (.ref b), .val (.int (Int32.ofNat i))] [])) → ∃ (pc : Nat) (Ls : Array Slot) (v : Int32), (pc = 25 ∨ pc = 33) ∧ ((v = 1 ∧ EqC A B) ∨ (v = 0 ∧ ¬ EqC A B)) ∧ Steps p.tables e below (s₁.setTop (entryFrame m #[.ref a, .ref b] 3)) (s₁.setTop (mkF m pc Ls [.int v])) := by
      intro r
      induction r with
      | zero =>
        intro i hi he cl
        exact ⟨33, _, 1, Or.inr rfl, Or.inl ⟨rfl, hs, fun j hj => he j (by omega)⟩, cl.trans (by
          refine XS.iloadN X0.here hexec rfl (hb hbytes d9) rfl ?_
          refine XS.aloadN X0.here hexec rfl (hb hbytes d10) rfl rfl ?_
          refine X0.alen hexec hA0 rfl rfl (hb hbytes d11) ?_
          refine XS.icmpYes X0.here hexec rfl (pc0 := 12) rfl (hb hbytes d12) rfl (ii_ge_t (nlt32 (by omega) (by omega))) (by decide) rfl ?_
          refine iconstV X0.here hexec rfl 1 (hb hbytes d32) (by decide) ?_
          exact Steps.refl _)⟩
      | succ r ih =>
        intro i hi he cl
        have c4 : Steps p.tables e below (s₁.setTop (entryFrame m #[.ref a, .ref b] 3)) (s₁.setTop (mkF m 21 #[.val (.ref a), .val (.ref b), .val (.int (Int32.ofNat i))] [.int (yv B i), .int (yv A i)])) := cl.trans (by
          refine XS.iloadN X0.here hexec rfl (hb hbytes d9) rfl ?_
          refine XS.aloadN X0.here hexec rfl (hb hbytes d10) rfl rfl ?_
          refine X0.alen hexec hA0 rfl rfl (hb hbytes d11) ?_
          refine XS.icmpNo X0.here hexec rfl (hb hbytes d12) rfl (ii_ge_f (lt32 (by omega) (by omega))) ?_
          refine XS.aloadN X0.here hexec rfl (hb hbytes d15) rfl rfl ?_
          refine XS.iloadN X0.here hexec rfl (hb hbytes d16) rfl ?_
          refine X0.aget hexec hA0 rfl (yv_get hA tA (i := i) (by omega)) rfl rfl (hb hbytes d17) ?_
          refine XS.aloadN X0.here hexec rfl (hb hbytes d18) rfl rfl ?_
          refine XS.iloadN X0.here hexec rfl (hb hbytes d19) rfl ?_
          refine X0.aget hexec hB0 rfl (yv_get hB tB (i := i) (by omega)) rfl rfl (hb hbytes d20) ?_
          exact Steps.refl _)
        by_cases hv : yv A i = yv B i
        · have c5 : Steps p.tables e below (s₁.setTop (entryFrame m #[.ref a, .ref b] 3)) (s₁.setTop (mkF m 9 #[.val (.ref a), .val (.ref b), .val (.int (Int32.ofNat i + 1))] [])) := c4.trans (by
            refine XS.icmpYes X0.here hexec rfl (pc0 := 21) rfl (hb hbytes d21) rfl (ii_eq_t hv) (by decide) rfl ?_
            refine iincV X0.here hexec rfl 1 (hb hbytes d26) (by decide) rfl rfl ?_
            refine XS.goto X0.here hexec rfl (pc0 := 29) rfl (hb hbytes d29) (by decide) rfl ?_
            exact Steps.refl _)
          rw [succ32] at c5
          exact ih (i + 1) (by omega) (fun j hj => by
            by_cases e : j = i
            · rw [e]; exact hv
            · exact he j (by omega)) c5
        · exact ⟨25, _, 0, Or.inl rfl, Or.inr ⟨rfl, fun q => hv (q.2 i (by omega))⟩, c4.trans (by
            refine XS.icmpNo X0.here hexec rfl (hb hbytes d21) rfl (ii_eq_f hv) ?_
            refine iconstV X0.here hexec rfl 0 (hb hbytes d24) (by decide) ?_
            exact Steps.refl _)⟩
    obtain ⟨pc, Ls, v, hpc, hv, cz⟩ := loop A.slots.size 0 (by omega) (fun j hj => absurd hj (Nat.not_lt_zero j)) c3
    have nv : narrow .boolean (.int v) = .int v := by rcases hv with ⟨rfl, -⟩ | ⟨rfl, -⟩ <;> rfl
    rcases hpc with rfl | rfl
    · exact ⟨s₁, some (.int v), _, _, _, X0, rfl, rfl, rfl, (fun h => by cases h), ⟨v, rfl, hh0, hv⟩, fun fs hl => cz.trans (X0.ireturnOut hexec hret nv (Or.inr (Or.inl rfl)) (hb hbytes d25) hl)⟩
    · exact ⟨s₁, some (.int v), _, _, _, X0, rfl, rfl, rfl, (fun h => by cases h), ⟨v, rfl, hh0, hv⟩, fun fs hl => cz.trans (X0.ireturnOut hexec hret nv (Or.inr (Or.inl rfl)) (hb hbytes d33) hl)⟩
  · have c3 : Steps p.tables e below (s₁.setTop (entryFrame m #[.ref a, .ref b] 3)) (s₁.setTop (mkF m 35 #[.val (.ref a), .val (.ref b), .unset] [.int 0])) := c2.trans (by
      refine XS.icmpYes X0.here hexec rfl (pc0 := 4) rfl (hb hbytes d4) rfl (ii_ne_t (ne32 a31 b31 hs)) (by decide) rfl ?_
      refine iconstV X0.here hexec rfl 0 (hb hbytes d34) (by decide) ?_
      exact Steps.refl _)
    exact ⟨s₁, some (.int 0), _, _, _, X0, rfl, rfl, rfl, (fun h => by cases h), ⟨0, rfl, hh0, Or.inr ⟨rfl, fun q => hs q.1⟩⟩, fun fs hl => c3.trans (X0.ireturnOut hexec hret rfl (Or.inr (Or.inl rfl)) (hb hbytes d35) hl)⟩
end LEq
theorem Cod.ty {cd : Int32} {n : Nat} {f : Nat → Int32} {V : Cell} (h : Cod cd n f V) : Typed .byte V := fun i v hv => by
  have hi : i < V.slots.size := (Array.getElem?_eq_some_iff.mp hv).1
  rcases h with ⟨-, k1, k2⟩ | ⟨-, k1, k2, -⟩
  · rw [(k2 i (by omega)).1] at hv; cases hv; exact fits_lo8 _
  · rcases Nat.mod_two_eq_zero_or_one i with e | e
    · obtain ⟨j, rfl⟩ : ∃ j, i = 2 * j := ⟨i / 2, by omega⟩
      rw [(k2 j (by omega)).1] at hv; cases hv; exact fits_lo8 _
    · obtain ⟨j, rfl⟩ : ∃ j, i = 2 * j + 1 := ⟨i / 2, by omega⟩
      rw [(k2 j (by omega)).2] at hv; cases hv; exact fits_lo8 _
/-- the same text -/
def SameT (n : Nat) (f : Nat → Int32) (k : Nat) (g : Nat → Int32) : Prop := n = k ∧ ∀ j, j < n → f j = g j
theorem lo8_inj {x y : Int32} (h0 : ¬ x < 0) (h1 : ¬ 255 < x) (k0 : ¬ y < 0) (k1 : ¬ 255 < y) (h : lo8 x = lo8 y) : x = y := by
  rw [← lo8_mask h0 h1, ← lo8_mask k0 k1, h]
/-- arrays coded by one coder are equal just where the texts are -/
theorem Cod.eqv {cd : Int32} {n k : Nat} {f g : Nat → Int32} {V V' : Cell} (h : Cod cd n f V) (h' : Cod cd k g V') (hf : ∀ j, j < n → ¬ f j < 0 ∧ ¬ 65535 < f j) (hg : ∀ j, j < k → ¬ g j < 0 ∧ ¬ 65535 < g j) : EqC V V' ↔ SameT n f k g := by
  have yvv : ∀ {W : Cell} {i : Nat} {x : Int32}, W.slots[i]? = some (.int x) → yv W i = x := fun q => by unfold yv; rw [q]
  rcases h with ⟨rfl, k1, k2⟩ | ⟨rfl, k1, k2, -⟩
  · rcases h' with ⟨-, m1, m2⟩ | ⟨e, -⟩
    · constructor
      · rintro ⟨e1, e2⟩
        refine ⟨by omega, fun j hj => ?_⟩
        have q := e2 j (by omega)
        rw [yvv (k2 j hj).1, yvv (m2 j (by omega)).1] at q
        exact lo8_inj (hf j hj).1 (k2 j hj).2 (hg j (by omega)).1 (m2 j (by omega)).2 q
      · rintro ⟨rfl, e2⟩
        refine ⟨by omega, fun j hj => ?_⟩
        rw [yvv (k2 j (by omega)).1, yvv (m2 j (by omega)).1, e2 j (by omega)]
    · exact absurd e (by decide)
  · rcases h' with ⟨e, -⟩ | ⟨-, m1, m2, -⟩
    · exact absurd e (by decide)
    · constructor
      · rintro ⟨e1, e2⟩
        refine ⟨by omega, fun j hj => ?_⟩
        have q1 := e2 (2 * j) (by omega)
        have q2 := e2 (2 * j + 1) (by omega)
        rw [yvv (k2 j hj).1, yvv (m2 j (by omega)).1] at q1
        rw [yvv (k2 j hj).2, yvv (m2 j (by omega)).2] at q2
        rw [← pair_says (hf j hj).1 (hf j hj).2, ← pair_says (hg j (by omega)).1 (hg j (by omega)).2, q1, q2]
      · rintro ⟨rfl, e2⟩
        refine ⟨by omega, fun i hi => ?_⟩
        rcases Nat.mod_two_eq_zero_or_one i with e | e
        · obtain ⟨j, rfl⟩ : ∃ j, i = 2 * j := ⟨i / 2, by omega⟩
          rw [yvv (k2 j (by omega)).1, yvv (m2 j (by omega)).1, e2 j (by omega)]
        · obtain ⟨j, rfl⟩ : ∃ j, i = 2 * j + 1 := ⟨i / 2, by omega⟩
          rw [yvv (k2 j (by omega)).2, yvv (m2 j (by omega)).2, e2 j (by omega)]
/-- two codings differ: so do the texts -/
theorem Cod.dif {cd cd' : Int32} {n k : Nat} {f g : Nat → Int32} {V V' : Cell} (h : Cod cd n f V) (h' : Cod cd' k g V') (hne : ¬ cd = cd') : ¬ SameT n f k g := by
  rintro ⟨rfl, e⟩
  rcases h with ⟨rfl, -, k2⟩ | ⟨rfl, -, -, j, hj, hw⟩
  · rcases h' with ⟨rfl, -⟩ | ⟨-, -, -, j, hj, hw⟩
    · exact hne rfl
    · exact (k2 j hj).2 (by rw [e j hj]; exact hw)
  · rcases h' with ⟨-, -, m2⟩ | ⟨rfl, -⟩
    · exact (m2 j hj).2 (by rw [← e j hj]; exact hw)
    · exact hne rfl
/-- an object of exactly C is an instance of C -/
theorem cinst {p : Program} {l : Launch} {e : Env} {R : Room} {s : State} {m : MethodId} {args : Array Value} {below : List Frame} {meth : Method} {c : Code} {T : State} {locs : List Loc} {cells slots : Nat} (X : Stand p l e R s m args below meth c T locs cells slots) (hexec : p.tables.exec = Jvm.exec) {own C : String} {index : Nat} (hown : s.vm.findClass own = some m.cls) (hlink : (Cond.classLink own index C).before args s = true) {a : Addr} (hE : Exact C a T)
    {g : JFrame} (hg : g.method = m) {rest : List Value} (hstack : g.stack = .ref a :: rest) (hdg : decode c.code g.pc = .ok (.instanceof index, 3)) :
    ∃ T', Stand p l e R s m args below meth c T' locs cells slots ∧ T'.heap = T.heap ∧ ∀ target, Steps p.tables e below (T'.setTop { g with pc := g.pc + 3, stack := .int 1 :: rest }) target → Steps p.tables e below (T.setTop g) target := by
  obtain ⟨cB, h1, D, h2, h3, h4⟩ := hE
  have h1' : s.vm.findClass C = some cB := by rw [← X.warmed.alike.findClass]; exact h1
  obtain ⟨vm', X', st⟩ := X.instanceofYes hexec hown hlink h2 h4 h1' (by rw [h3]; exact Jvm.Free.SB.assignable_self _ _) hg hstack hdg
  exact ⟨_, X', rfl, st⟩
theorem cself {p : Program} {l : Launch} {e : Env} {R : Room} {s : State} {m : MethodId} {args : Array Value} {below : List Frame} {meth : Method} {c : Code} {T : State} {locs : List Loc} {cells slots : Nat} (X : Stand p l e R s m args below meth c T locs cells slots) (hexec : p.tables.exec = Jvm.exec) {own C : String} {index : Nat} (hown : s.vm.findClass own = some m.cls) (hlink : (Cond.classLink own index C).before args s = true) {a : Addr} (hE : Exact C a T)
    {g : JFrame} (hg : g.method = m) {rest : List Value} (hstack : g.stack = .ref a :: rest) (hdg : decode c.code g.pc = .ok (.checkcast index, 3)) :
    ∃ T', Stand p l e R s m args below meth c T' locs cells slots ∧ T'.heap = T.heap ∧ ∀ target, Steps p.tables e below (T'.setTop { g with pc := g.pc + 3, stack := .ref a :: rest }) target → Steps p.tables e below (T.setTop g) target := by
  obtain ⟨cB, h1, D, h2, h3, h4⟩ := hE
  have h1' : s.vm.findClass C = some cB := by rw [← X.warmed.alike.findClass]; exact h1
  obtain ⟨vm', X', st⟩ := X.checkcastYes hexec hown hlink h2 h4 h1' (by rw [h3]; exact Jvm.Free.SB.assignable_self _ _) hg hstack hdg
  exact ⟨_, X', rfl, fun t h => st t (by rw [← hstack] at h; exact h)⟩
namespace SEq
def yN : MethodName := ⟨"java/lang/String", "equals", "(Ljava/lang/Object;)Z"⟩
abbrev yB : ByteArray := jdk_42_method_66_code
theorem d0 : decode yB 0 = .ok (.aload_n 0, 1) := by decide +kernel
theorem d1 : decode yB 1 = .ok (.aload_n 1, 1) := by decide +kernel
theorem d2 : decode yB 2 = .ok (.if_acmp (.ne) 5, 3) := by decide +kernel
theorem d5 : decode yB 5 = .ok (.iconst 1, 1) := by decide +kernel
theorem d6 : decode yB 6 = .ok (.ireturn, 1) := by decide +kernel
theorem d7 : decode yB 7 = .ok (.aload_n 1, 1) := by decide +kernel
theorem d8 : decode yB 8 = .ok (.instanceof 10, 3) := by decide +kernel
theorem d11 : decode yB 11 = .ok (.ifCond (.eq) 43, 3) := by decide +kernel
theorem d14 : decode yB 14 = .ok (.aload_n 1, 1) := by decide +kernel
theorem d15 : decode yB 15 = .ok (.checkcast 10, 3) := by decide +kernel
theorem d18 : decode yB 18 = .ok (.astore_n 2, 1) := by decide +kernel
theorem d19 : decode yB 19 = .ok (.getstatic 38, 3) := by decide +kernel
theorem d22 : decode yB 22 = .ok (.ifCond (.eq) 14, 3) := by decide +kernel
theorem d25 : decode yB 25 = .ok (.aload_n 0, 1) := by decide +kernel
theorem d26 : decode yB 26 = .ok (.getfield 15, 3) := by decide +kernel
theorem d29 : decode yB 29 = .ok (.aload_n 2, 1) := by decide +kernel
theorem d30 : decode yB 30 = .ok (.getfield 15, 3) := by decide +kernel
theorem d33 : decode yB 33 = .ok (.if_icmp (.ne) 21, 3) := by decide +kernel
theorem d36 : decode yB 36 = .ok (.aload_n 0, 1) := by decide +kernel
theorem d37 : decode yB 37 = .ok (.getfield 9, 3) := by decide +kernel
theorem d40 : decode yB 40 = .ok (.aload_n 2, 1) := by decide +kernel
theorem d41 : decode yB 41 = .ok (.getfield 9, 3) := by decide +kernel
theorem d44 : decode yB 44 = .ok (.invokestatic 541, 3) := by decide +kernel
theorem d47 : decode yB 47 = .ok (.ifCond (.eq) 7, 3) := by decide +kernel
theorem d50 : decode yB 50 = .ok (.iconst 1, 1) := by decide +kernel
theorem d51 : decode yB 51 = .ok (.goto 4, 3) := by decide +kernel
theorem d54 : decode yB 54 = .ok (.iconst 0, 1) := by decide +kernel
theorem d55 : decode yB 55 = .ok (.ireturn, 1) := by decide +kernel
def site : List Cond := [.classLink "java/lang/String" 10 "java/lang/String", .fieldLink "java/lang/String" 38 "java/lang/String" "COMPACT_STRINGS" "Z", .fieldLink "java/lang/String" 15 "java/lang/String" "coder" "B", .fieldLink "java/lang/String" 9 "java/lang/String" "value" "[B", LEq.tab] ++ staticW "java/lang/String" 541 LEq.yN
def tab : Cond := tabOf yN yB 3 (some .boolean) site
def P (x t : Addr) (V : Cell) (cd : Int32) (n : Nat) (f : Nat → Int32) (y t' : Addr) (V' : Cell) (cd' : Int32) (k : Nat) (g : Nat → Int32) (z : Int32) (args : Array Value) (s : State) : Prop := args = #[.ref x, .ref y] ∧ Txt x t V cd n f s ∧ Txt y t' V' cd' k g s ∧ StaticIs s "java/lang/String" "COMPACT_STRINGS" "Z" (.int z) ∧ ¬ z = 0
/-- equals(Object) of two Strings: whether the texts are the same -/
theorem law (l : Launch) (x t : Addr) (V : Cell) (cd : Int32) (n : Nat) (f : Nat → Int32) (y t' : Addr) (V' : Cell) (cd' : Int32) (k : Nat) (g : Nat → Int32) (z : Int32) : Law l yN 2 1 1 14 yB 3 (some .boolean) site (P x t V cd n f y t' V' cd' k g z) (Says01 (SameT n f k g)) [] 0 0 := by
  refine Law.of_walk (plainFor_of_name (by decide +kernel)) (by decide +kernel) (by decide +kernel) (by decide) (fun _ _ h => by rw [h.1]; rfl) (fun _ U U' hal hh h => ⟨h.1, h.2.1.mv hal hh, h.2.2.1.mv hal hh, h.2.2.2.1.there hal hh, h.2.2.2.2⟩) (fun r U U' V V' h1 hal h2 h => Says01.mv r U U' V V' h1 hal h2 h) ?_
  intro p e s m args below meth c s₁ X0 hexec hbytes hml hret hlk hnm hown hh0 W hP
  obtain ⟨rfl, hx, hy, s1, hz⟩ := hP
  have c1 : Steps p.tables e below (s₁.setTop (entryFrame m #[.ref x, .ref y] 3)) (s₁.setTop (mkF m 2 #[.val (.ref x), .val (.ref y), .unset] [.ref y, .ref x])) := Steps.trans (entry rfl) (by
    show Steps p.tables e below (s₁.setTop (mkF m 0 #[.val (.ref x), .val (.ref y), .unset] [])) _
    refine XS.aloadN X0.here hexec rfl (hb hbytes d0) rfl rfl ?_
    refine XS.aloadN X0.here hexec rfl (hb hbytes d1) rfl rfl ?_
    exact Steps.refl _)
  by_cases hxy : x = y
  · have c2 : Steps p.tables e below (s₁.setTop (entryFrame m #[.ref x, .ref y] 3)) (s₁.setTop (mkF m 6 #[.val (.ref x), .val (.ref y), .unset] [.int 1])) := c1.trans (by
      refine acmpNo X0.here hexec rfl (hb hbytes d2) rfl rfl rfl (by simp [acmp, hxy]) ?_
      refine iconstV X0.here hexec rfl 1 (hb hbytes d5) (by decide) ?_
      exact Steps.refl _)
    subst hxy
    have ec : cd = cd' := by
      obtain ⟨D, fd, a1, a2, a3⟩ := hx.2.2.1
      obtain ⟨D', fd', b1, b2, b3⟩ := hy.2.2.1
      cases a1.symm.trans b1
      obtain ⟨q1, q2, q3, q4⟩ := a2.1
      obtain ⟨r1, r2, r3, r4⟩ := b2.1
      cases q4.symm.trans r4
      cases a3.symm.trans b3; rfl
    have et : t = t' := by
      obtain ⟨D, fd, a1, a2, a3⟩ := hx.2.1
      obtain ⟨D', fd', b1, b2, b3⟩ := hy.2.1
      cases a1.symm.trans b1
      obtain ⟨q1, q2, q3, q4⟩ := a2.1
      obtain ⟨r1, r2, r3, r4⟩ := b2.1
      cases q4.symm.trans r4
      cases a3.symm.trans b3; rfl
    subst ec et
    have ev : V = V' := by cases hx.2.2.2.1.1.symm.trans hy.2.2.2.1.1; rfl
    subst ev
    have hs : SameT n f k g := (Cod.eqv hx.2.2.2.2.1 hy.2.2.2.2.1 hx.2.2.2.2.2 hy.2.2.2.2.2).mp ⟨rfl, fun _ _ => rfl⟩
    exact ⟨s₁, some (.int 1), _, _, _, X0, rfl, rfl, rfl, (fun h => by cases h), ⟨1, rfl, hh0, Or.inl ⟨rfl, hs⟩⟩, fun fs hl => c2.trans (X0.ireturnOut hexec hret rfl (Or.inr (Or.inl rfl)) (hb hbytes d6) hl)⟩
  · have c2 : Steps p.tables e below (s₁.setTop (entryFrame m #[.ref x, .ref y] 3)) (s₁.setTop (mkF m 8 #[.val (.ref x), .val (.ref y), .unset] [.ref y])) := c1.trans (by
      refine acmpYes X0.here hexec rfl (pc0 := 2) rfl (hb hbytes d2) rfl rfl rfl (by simp [acmp, hxy]) (by decide) rfl ?_
      refine XS.aloadN X0.here hexec rfl (hb hbytes d7) rfl rfl ?_
      exact Steps.refl _)
    obtain ⟨T3, X3, q3, st3⟩ := cinst X0 hexec hown (wk W (.classLink "java/lang/String" 10 "java/lang/String")) (hy.mv X0.warmed.alike hh0).1 (g := (mkF m 8 #[.val (.ref x), .val (.ref y), .unset] [.ref y])) rfl (rest := []) rfl (hb hbytes d8)
    have hh3 := q3.trans hh0
    have c4 : Steps p.tables e below (s₁.setTop (entryFrame m #[.ref x, .ref y] 3)) (T3.setTop (mkF m 15 #[.val (.ref x), .val (.ref y), .unset] [.ref y])) := (c2.trans (st3 _ (Steps.refl _))).trans (by
      refine XS.ifNo X3.here hexec rfl (hb hbytes d11) rfl (i0_eq_f (by decide)) ?_
      refine XS.aloadN X3.here hexec rfl (hb hbytes d14) rfl rfl ?_
      exact Steps.refl _)
    obtain ⟨T5, X5, q5, st5⟩ := cself X3 hexec hown (wk W (.classLink "java/lang/String" 10 "java/lang/String")) (hy.mv X3.warmed.alike hh3).1 (g := (mkF m 15 #[.val (.ref x), .val (.ref y), .unset] [.ref y])) rfl (rest := []) rfl (hb hbytes d15)
    have hh5 := q5.trans hh3
    have c6 : Steps p.tables e below (s₁.setTop (entryFrame m #[.ref x, .ref y] 3)) (T5.setTop (mkF m 19 #[.val (.ref x), .val (.ref y), .val (.ref y)] [])) := (c4.trans (st5 _ (Steps.refl _))).trans (by
      refine XS.astoreN X5.here hexec rfl (hb hbytes d18) rfl rfl rfl ?_
      exact Steps.refl _)
    obtain ⟨T7, X7, q7, st7⟩ := X5.sget hexec hown (wk W (.fieldLink "java/lang/String" 38 "java/lang/String" "COMPACT_STRINGS" "Z")) s1 (fun _ _ h => by rw [hh5]; exact h) (g := (mkF m 19 #[.val (.ref x), .val (.ref y), .val (.ref y)] [])) rfl (hb hbytes d19)
    have hh7 := q7.trans hh5
    have c8 : Steps p.tables e below (s₁.setTop (entryFrame m #[.ref x, .ref y] 3)) (T7.setTop (mkF m 26 #[.val (.ref x), .val (.ref y), .val (.ref y)] [.ref x])) := (c6.trans (st7 _ (Steps.refl _))).trans (by
      refine XS.ifNo X7.here hexec rfl (hb hbytes d22) rfl (i0_eq_f hz) ?_
      refine XS.aloadN X7.here hexec rfl (hb hbytes d25) rfl rfl ?_
      exact Steps.refl _)
    obtain ⟨T9, X9, q9, st9⟩ := X7.hget hexec hown (wk W (.fieldLink "java/lang/String" 15 "java/lang/String" "coder" "B")) (hx.mv X7.warmed.alike hh7).2.2.1 (g := (mkF m 26 #[.val (.ref x), .val (.ref y), .val (.ref y)] [.ref x])) rfl (rest := []) rfl (hb hbytes d26)
    have hh9 := q9.trans hh7
    have c10 : Steps p.tables e below (s₁.setTop (entryFrame m #[.ref x, .ref y] 3)) (T9.setTop (mkF m 30 #[.val (.ref x), .val (.ref y), .val (.ref y)] [.ref y, .int cd])) := (c8.trans (st9 _ (Steps.refl _))).trans (by
      refine XS.aloadN X9.here hexec rfl (hb hbytes d29) rfl rfl ?_
      exact Steps.refl _)
    obtain ⟨T11, X11, q11, st11⟩ := X9.hget hexec hown (wk W (.fieldLink "java/lang/String" 15 "java/lang/String" "coder" "B")) (hy.mv X9.warmed.alike hh9).2.2.1 (g := (mkF m 30 #[.val (.ref x), .val (.ref y), .val (.ref y)] [.ref y, .int cd])) rfl (rest := [.int cd]) rfl (hb hbytes d30)
    have hh11 := q11.trans hh9
    have c12 : Steps p.tables e below (s₁.setTop (entryFrame m #[.ref x, .ref y] 3)) (T11.setTop (mkF m 33 #[.val (.ref x), .val (.ref y), .val (.ref y)] [.int cd', .int cd])) := c10.trans (st11 _ (Steps.refl _))
    by_cases hcd : cd = cd'
    · subst hcd
      have c13 : Steps p.tables e below (s₁.setTop (entryFrame m #[.ref x, .ref y] 3)) (T11.setTop (mkF m 37 #[.val (.ref x), .val (.ref y), .val (.ref y)] [.ref x])) := c12.trans (by
        refine XS.icmpNo X11.here hexec rfl (hb hbytes d33) rfl (ii_ne_f rfl) ?_
        refine XS.aloadN X11.here hexec rfl (hb hbytes d36) rfl rfl ?_
        exact Steps.refl _)
      obtain ⟨T14, X14, q14, st14⟩ := X11.hget hexec hown (wk W (.fieldLink "java/lang/String" 9 "java/lang/String" "value" "[B")) (hx.mv X11.warmed.alike hh11).2.1 (g := (mkF m 37 #[.val (.ref x), .val (.ref y), .val (.ref y)] [.ref x])) rfl (rest := []) rfl (hb hbytes d37)
      have hh14 := q14.trans hh11
      have c15 : Steps p.tables e below (s₁.setTop (entryFrame m #[.ref x, .ref y] 3)) (T14.setTop (mkF m 41 #[.val (.ref x), .val (.ref y), .val (.ref y)] [.ref y, .ref t])) := (c13.trans (st14 _ (Steps.refl _))).trans (by
        refine XS.aloadN X14.here hexec rfl (hb hbytes d40) rfl rfl ?_
        exact Steps.refl _)
      obtain ⟨T16, X16, q16, st16⟩ := X14.hget hexec hown (wk W (.fieldLink "java/lang/String" 9 "java/lang/String" "value" "[B")) (hy.mv X14.warmed.alike hh14).2.1 (g := (mkF m 41 #[.val (.ref x), .val (.ref y), .val (.ref y)] [.ref y, .ref t])) rfl (rest := [.ref t]) rfl (hb hbytes d41)
      have hh16 := q16.trans hh14
      have c17 : Steps p.tables e below (s₁.setTop (entryFrame m #[.ref x, .ref y] 3)) (T16.setTop (mkF m 44 #[.val (.ref x), .val (.ref y), .val (.ref y)] [.ref t', .ref t])) := c15.trans (st16 _ (Steps.refl _))
      obtain ⟨v18, T18, X18, E18, g18⟩ := X16.callS hexec (LEq.law l t V t' V') hown (wks W (staticW "java/lang/String" 541 LEq.yN)) (wk W LEq.tab) (W := 0) (Nat.le_of_ble_eq_true rfl) (Nat.le_of_ble_eq_true rfl) (Nat.le_refl _) (Nat.le_refl _) (g := (mkF m 44 #[.val (.ref x), .val (.ref y), .val (.ref y)] [.ref t', .ref t])) rfl (by rw [hml]; rfl) c17 (argsL := [.ref t, .ref t']) (rest := []) rfl rfl (by show 2 * 0 + 0 ≤ _; decide) (hb hbytes d44) (⟨rfl, hx.2.2.2.1.mv X16.warmed.alike hh16, hx.2.2.2.2.1.ty, hy.2.2.2.1.mv X16.warmed.alike hh16, hy.2.2.2.2.1.ty⟩)
      obtain ⟨v, rfl, q18, hv⟩ := E18
      have iff := Cod.eqv hx.2.2.2.2.1 hy.2.2.2.2.1 hx.2.2.2.2.2 hy.2.2.2.2.2
      rcases hv with ⟨rfl, he⟩ | ⟨rfl, he⟩
      · have c19 : Steps p.tables e below (s₁.setTop (entryFrame m #[.ref x, .ref y] 3)) (T18.setTop (mkF m 55 #[.val (.ref x), .val (.ref y), .val (.ref y)] [.int 1])) := Steps.trans g18 (by
          refine XS.ifNo X18.here hexec rfl (hb hbytes d47) rfl (i0_eq_f (by decide)) ?_
          refine iconstV X18.here hexec rfl 1 (hb hbytes d50) (by decide) ?_
          refine XS.goto X18.here hexec rfl (pc0 := 51) rfl (hb hbytes d51) (by decide) rfl ?_
          exact Steps.refl _)
        exact ⟨T18, some (.int 1), _, _, _, X18, rfl, rfl, rfl, (fun h => by cases h), ⟨1, rfl, q18.trans hh16, Or.inl ⟨rfl, iff.mp he⟩⟩, fun fs hl => c19.trans (X18.ireturnOut hexec hret rfl (Or.inr (Or.inl rfl)) (hb hbytes d55) hl)⟩
      · have c19 : Steps p.tables e below (s₁.setTop (entryFrame m #[.ref x, .ref y] 3)) (T18.setTop (mkF m 55 #[.val (.ref x), .val (.ref y), .val (.ref y)] [.int 0])) := Steps.trans g18 (by
          refine XS.ifYes X18.here hexec rfl (pc0 := 47) rfl (hb hbytes d47) rfl (i0_eq_t rfl) (by decide) rfl ?_
          refine iconstV X18.here hexec rfl 0 (hb hbytes d54) (by decide) ?_
          exact Steps.refl _)
        exact ⟨T18, some (.int 0), _, _, _, X18, rfl, rfl, rfl, (fun h => by cases h), ⟨0, rfl, q18.trans hh16, Or.inr ⟨rfl, fun q => he (iff.mpr q)⟩⟩, fun fs hl => c19.trans (X18.ireturnOut hexec hret rfl (Or.inr (Or.inl rfl)) (hb hbytes d55) hl)⟩
    · have c13 : Steps p.tables e below (s₁.setTop (entryFrame m #[.ref x, .ref y] 3)) (T11.setTop (mkF m 55 #[.val (.ref x), .val (.ref y), .val (.ref y)] [.int 0])) := c12.trans (by
        refine XS.icmpYes X11.here hexec rfl (pc0 := 33) rfl (hb hbytes d33) rfl (ii_ne_t hcd) (by decide) rfl ?_
        refine iconstV X11.here hexec rfl 0 (hb hbytes d54) (by decide) ?_
        exact Steps.refl _)
      exact ⟨T11, some (.int 0), _, _, _, X11, rfl, rfl, rfl, (fun h => by cases h), ⟨0, rfl, hh11, Or.inr ⟨rfl, Cod.dif hx.2.2.2.2.1 hy.2.2.2.2.1 hcd⟩⟩, fun fs hl => c13.trans (X11.ireturnOut hexec hret rfl (Or.inr (Or.inl rfl)) (hb hbytes d55) hl)⟩
theorem pays {l : Launch} {R : Room} {p : Program} {e : Env} {below : List Frame} {s : State} {sargs : Array Value} {len W : Nat} (x t : Addr) (V : Cell) (cd : Int32) (n : Nat) (f : Nat → Int32) (y t' : Addr) (V' : Cell) (cd' : Int32) (k : Nat) (g : Nat → Int32) (z : Int32) (htab : tab.before sargs s = true) (hfr : 2 ≤ R.frames) (hlo : W + 28 ≤ R.locals) :
    Back l R p e below s sargs yN len W (fun A₁ a₁ => A₁.cells + 0 ≤ R.cells ∧ A₁.slots + 0 ≤ R.slots ∧ P x t V cd n f y t' V' cd' k g z a₁ A₁.U) (fun A₁ _ v₁ B₁ => Says01 (SameT n f k g) v₁ A₁.U B₁.U ∧ B₁.locs = A₁.locs ++ [] ∧ B₁.cells = A₁.cells + 0 ∧ B₁.slots = A₁.slots + 0) :=
  (law l x t V cd n f y t' V' cd' k g z).pays htab hfr (by omega)
end SEq
end StrChars
namespace StrChars.Road
open Jvm Sem ClassFile Op Lib Jvm.Stand Jvm.Free Jvm.Free.XT
open Jvm.Lib.Cold (StaticIs)
/-- the words of String.equals(Object) -/
abbrev wordsEq : List Jvm.Cond := [.code SEq.yN SEq.yB 3 (some .boolean), .initialized ST, .classLink ST 10 ST, .fieldLink ST 38 ST "COMPACT_STRINGS" "Z", .fieldLink ST 15 ST "coder" "B", .fieldLink ST 9 ST "value" "[B", .methodLink ST 541 LEq.yN, .static LEq.yN, .code LEq.yN LEq.yB 3 (some .boolean), .initialized "java/lang/StringLatin1"]
theorem tabEq_of {a : Array Value} {s : State} (h : ∀ w ∈ wordsEq, w.before a s = true) : SEq.tab.before a s = true := by
  have hl : LEq.tab.before a s = true := unparts (wk h (.code LEq.yN LEq.yB 3 (some .boolean))) (wks h (.initialized LEq.yN.cls :: LEq.site))
  have q := consq hl h
  exact unparts (wk q (.code SEq.yN SEq.yB 3 (some .boolean))) (wks q (.initialized SEq.yN.cls :: SEq.site))
theorem movedEq {Z s : State} {a0 args : Array Value} (hZ : Z.Warmed39 s.vm) (hw : ∀ d ∈ wordsEq, d.before a0 Z = true) : ∀ d ∈ wordsEq, d.before args s = true := fun d hd => by
  have t : ∀ d ∈ wordsEq, (d.onTables && d.keepsFace) = true := by decide +kernel
  exact RoadKit.mv hZ (hw d hd) (t d hd)
/-- the road's facts of a String, as the laws ask it -/
theorem txt_of {Z U : State} {a0 : Array Value} {kI : Nat} (wi : (Jvm.Cond.instantiable ST kI).before a0 Z = true) (al : Z.vm.Alike U.vm) {x t : Addr} {kb : ClassId} {cs : List Int32} {cd N2 : Int32} {vs : List Value} (E : RoadKit.Exa Z U.heap x ST) (V : RoadKit.Fld Z U.heap x ST "value" "[B" (.ref t)) (C : RoadKit.Fld Z U.heap x ST "coder" "B" (.int cd)) (K : RoadKit.Arv Z U.heap t kb .byte N2 vs (.int 0)) (hc : CodA cs cd N2 vs) (hb : ∀ c ∈ cs, ¬ c < 0 ∧ ¬ (65535 : Int32) < c) (l2 : cs.length ≤ 4000) :
    ∃ A, Txt x t A cd cs.length (fun j => cs.getD j 0) U := by
  obtain ⟨A, K1, K2, K3, K4, K5, K6⟩ := K
  have hcod := hc.cod (by omega) K3 K5
  obtain ⟨D, fV, fC, hB, F1, F2, g1, g2, -, -⟩ := strObj wi al E V C
  exact ⟨A, ⟨_, hB.2.2.1, D, hB.1, rfl, by cases q : D.vm <;> first | rfl | exact absurd q (hB.2.1.2 _)⟩, Has.of hB F1 g1, Has.of hB F2 g2, ⟨K1.1, State.isArrayOf_alike al K1.2.1, K1.2.2, by rcases hcod with ⟨-, q, -⟩ | ⟨-, q, -⟩ <;> omega⟩, hcod, fun j hj => by
    have e : cs.getD j 0 = cs[j] := by simp [List.getD_eq_getElem?_getD, hj]
    show ¬ cs.getD j 0 < 0 ∧ ¬ 65535 < cs.getD j 0
    rw [e]; exact hb _ (List.getElem_mem _)⟩
theorem same_list (cs ds : List Int32) : SameT cs.length (fun j => cs.getD j 0) ds.length (fun j => ds.getD j 0) ↔ cs = ds := by
  constructor
  · rintro ⟨e, q⟩
    refine List.ext_getElem e fun j h1 h2 => ?_
    have := q j h1
    simpa [List.getD_eq_getElem?_getD, h1, h2] using this
  · rintro rfl
    exact ⟨rfl, fun _ _ => rfl⟩
/-- **equals(Object) OF TWO SUCH STRINGS**: 1 just where the chars are the same -/
theorem eqW {p : Program} {l : Launch} {e : Env} {R : Room} {s : State} {args : Array Value} {below : List Frame} {len W : Nat} {Z : State} {a0 : Array Value} {h : Heap} (hZ : Z.Warmed39 s.vm) (hw : ∀ d ∈ wordsEq, d.before a0 Z = true) {kI : Nat} (wi : (Jvm.Cond.instantiable ST kI).before a0 Z = true)
    {x t : Addr} {kb : ClassId} {cs : List Int32} {cd N2 : Int32} {vs : List Value} (E : RoadKit.Exa Z h x ST) (V : RoadKit.Fld Z h x ST "value" "[B" (.ref t)) (C : RoadKit.Fld Z h x ST "coder" "B" (.int cd)) (K : RoadKit.Arv Z h t kb .byte N2 vs (.int 0)) (hc : CodA cs cd N2 vs) (hb : ∀ c ∈ cs, ¬ c < 0 ∧ ¬ (65535 : Int32) < c) (l2 : cs.length ≤ 4000)
    {y t' : Addr} {kb' : ClassId} {ds : List Int32} {cd' N2' : Int32} {vs' : List Value} (E' : RoadKit.Exa Z h y ST) (V' : RoadKit.Fld Z h y ST "value" "[B" (.ref t')) (C' : RoadKit.Fld Z h y ST "coder" "B" (.int cd')) (K' : RoadKit.Arv Z h t' kb' .byte N2' vs' (.int 0)) (hc' : CodA ds cd' N2' vs') (hb' : ∀ c ∈ ds, ¬ c < 0 ∧ ¬ (65535 : Int32) < c) (l2' : ds.length ≤ 4000)
    {z : Int32} (S : RoadKit.Sta Z h ST "COMPACT_STRINGS" "Z" (.int z)) (hz : ¬ z = 0) (hfr : 2 ≤ R.frames) (hlo : W + 28 ≤ R.locals) :
    Back l R p e below s args (⟨"java/lang/String", "equals", "(Ljava/lang/Object;)Z"⟩ : MethodName) len W (fun P a => a = #[.ref x, .ref y] ∧ P.U.heap = h ∧ P.cells + 0 ≤ R.cells ∧ P.slots + 0 ≤ R.slots)
      (fun P _ v B => ∃ L, (((v = some (.int 1) ∧ cs = ds) ∨ (v = some (.int 0) ∧ ¬ cs = ds)) ∧ L = [] ∧ B.U.heap = h) ∧ B.locs = P.locs ++ L ∧ B.cells = P.cells + 0 ∧ B.slots = P.slots + 0) := by
  intro m meth c P g ig mk a X hg hsize hdg hW hn hp'
  obtain ⟨rfl, rfl, r1, r2⟩ := hp'
  have al : Z.vm.Alike P.U.vm := hZ.alike.trans X.warmed.alike
  obtain ⟨A, hx⟩ := txt_of wi al E V C K hc hb l2
  obtain ⟨A', hy⟩ := txt_of wi al E' V' C' K' hc' hb' l2'
  obtain ⟨v, B, X', ⟨⟨w, hv, hh, hq⟩, hl, hk, hs⟩, st⟩ := SEq.pays x t A cd cs.length (fun j => cs.getD j 0) y t' A' cd' ds.length (fun j => ds.getD j 0) z (tabEq_of (movedEq hZ hw)) hfr hlo m meth c P g ig mk _ X hg hsize hdg hW hn ⟨r1, r2, rfl, hx, hy, sta_is al S, hz⟩
  refine ⟨v, B, X', ⟨[], ⟨?_, rfl, hh⟩, hl, hk, hs⟩, st⟩
  rcases hq with ⟨rfl, q⟩ | ⟨rfl, q⟩
  · exact Or.inl ⟨hv, (same_list cs ds).mp q⟩
  · exact Or.inr ⟨hv, fun e => q ((same_list cs ds).mpr e)⟩
end StrChars.Road
namespace StrChars
open Jvm Sem ClassFile Op Lib Jvm.Stand Jvm.Free.XT Jvm.Free.ALB Jvm.Free.JM Jvm.Free
open Jvm.Lib.Cold (StaticIs)
namespace ChN
def yN : MethodName := ⟨"java/lang/String", "charAt", "(I)C"⟩
abbrev yB : ByteArray := jdk_42_method_56_code
theorem d0 : decode yB 0 = .ok (.aload_n 0, 1) := by decide +kernel
theorem d1 : decode yB 1 = .ok (.invokevirtual 492, 3) := by decide +kernel
theorem d4 : decode yB 4 = .ok (.ifCond (.eq) 12, 3) := by decide +kernel
theorem d7 : decode yB 7 = .ok (.aload_n 0, 1) := by decide +kernel
theorem d8 : decode yB 8 = .ok (.getfield 9, 3) := by decide +kernel
theorem d11 : decode yB 11 = .ok (.iload_n 1, 1) := by decide +kernel
theorem d12 : decode yB 12 = .ok (.invokestatic 495, 3) := by decide +kernel
theorem d15 : decode yB 15 = .ok (.ireturn, 1) := by decide +kernel
def site : List Cond := [.fieldLink "java/lang/String" 9 "java/lang/String" "value" "[B", IsL.tab, LChA.tab] ++ virtW "java/lang/String" 492 "java/lang/String" IsL.yN IsL.yN ++ staticW "java/lang/String" 495 LChA.yN
def tab : Cond := tabOf yN yB 2 (some .char) site
def P (x t : Addr) (V : Cell) (n : Nat) (f : Nat → Int32) (z : Int32) (fm : Value) (i : Nat) (args : Array Value) (s : State) : Prop := args = #[.ref x, .int (Int32.ofNat i)] ∧ Txt x t V 0 n f s ∧ i < n ∧ StaticIs s "java/lang/String" "COMPACT_STRINGS" "Z" (.int z) ∧ ¬ z = 0 ∧ StaticIs s "jdk/internal/util/Preconditions" "SIOOBE_FORMATTER" "Ljava/util/function/BiFunction;" fm ∧ fm.isRef = true
def E (f : Nat → Int32) (i : Nat) (r : Option Value) (s u : State) : Prop := XT.PureE (some (.int (f i))) r s u
/-- charAt(i) of a Latin-1 String of n chars, i < n: f i -/
theorem law (l : Launch) (x t : Addr) (V : Cell) (n : Nat) (f : Nat → Int32) (z : Int32) (fm : Value) (i : Nat) : Law l yN 2 1 3 40 yB 2 (some .char) site (P x t V n f z fm i) (E f i) [] 0 0 := by
  refine Law.of_walk (plainFor_of_name (by decide +kernel)) (by decide +kernel) (by decide +kernel) (by decide) (fun _ _ h => by rw [h.1]; rfl) (fun _ U U' hal hh h => ⟨h.1, h.2.1.mv hal hh, h.2.2.1, h.2.2.2.1.there hal hh, h.2.2.2.2.1, h.2.2.2.2.2.1.there hal hh, h.2.2.2.2.2.2⟩) (fun r U U' V V' h1 hal h2 h => XT.PureE.mv r U U' V V' h1 hal h2 h) ?_
  intro p e s m args below meth c s₁ X0 hexec hbytes hml hret hlk hnm hown hh0 W hP
  obtain ⟨rfl, hx, hi, s1, hz, s3, rf⟩ := hP
  have v31 := hx.2.2.2.1.2.2.2
  have hr := hx.2.2.2.2.2 i hi
  have hx0 := hx.mv X0.warmed.alike hh0
  have c1 : Steps p.tables e below (s₁.setTop (entryFrame m #[.ref x, .int (Int32.ofNat i)] 2)) (s₁.setTop (mkF m 1 #[.val (.ref x), .val (.int (Int32.ofNat i))] [.ref x])) := Steps.trans (entry rfl) (by
    show Steps p.tables e below (s₁.setTop (mkF m 0 #[.val (.ref x), .val (.int (Int32.ofNat i))] [])) _
    refine XS.aloadN X0.here hexec rfl (hb hbytes d0) rfl rfl ?_
    exact Steps.refl _)
  obtain ⟨v2, T2, X2, E2, g2⟩ := X0.callV hexec (IsL.law l x 0 z) hown (wks W (virtW "java/lang/String" 492 "java/lang/String" IsL.yN IsL.yN)) rfl (by decide) (wk W IsL.tab) (W := 0) (Nat.le_of_ble_eq_true rfl) (Nat.le_of_ble_eq_true rfl) (Nat.le_refl _) (Nat.le_refl _) (hx0.1.fc X0.warmed.alike) hx0.1.is (g := (mkF m 1 #[.val (.ref x), .val (.int (Int32.ofNat i))] [.ref x])) rfl (by rw [hml]; rfl) c1 (argsL := []) (rest := []) rfl rfl (by show 2 * 0 + 0 ≤ _; decide) (hb hbytes d1) (⟨rfl, hx0.2.2.1, hx.2.2.2.2.1.cd, s1.there X0.warmed.alike hh0, hz⟩)
  obtain ⟨rfl, q2⟩ := E2
  have hh2 := q2.trans hh0
  have hx2 := hx.mv X2.warmed.alike hh2
  obtain ⟨-, k1, k2⟩ | ⟨k0, -⟩ := hx.2.2.2.2.1
  · have c3 : Steps p.tables e below (s₁.setTop (entryFrame m #[.ref x, .int (Int32.ofNat i)] 2)) (T2.setTop (mkF m 8 #[.val (.ref x), .val (.int (Int32.ofNat i))] [.ref x])) := Steps.trans g2 (by
      refine XS.ifNo X2.here hexec rfl (hb hbytes d4) rfl (i0_eq_f (by decide)) ?_
      refine XS.aloadN X2.here hexec rfl (hb hbytes d7) rfl rfl ?_
      exact Steps.refl _)
    obtain ⟨T4, X4, q4, st4⟩ := X2.hget hexec hown (wk W (.fieldLink "java/lang/String" 9 "java/lang/String" "value" "[B")) hx2.2.1 (g := (mkF m 8 #[.val (.ref x), .val (.int (Int32.ofNat i))] [.ref x])) rfl (rest := []) rfl (hb hbytes d8)
    have hh4 := q4.trans hh2
    have c5 : Steps p.tables e below (s₁.setTop (entryFrame m #[.ref x, .int (Int32.ofNat i)] 2)) (T4.setTop (mkF m 12 #[.val (.ref x), .val (.int (Int32.ofNat i))] [.int (Int32.ofNat i), .ref t])) := (c3.trans (st4 _ (Steps.refl _))).trans (by
      refine XS.iloadN X4.here hexec rfl (hb hbytes d11) rfl ?_
      exact Steps.refl _)
    obtain ⟨v6, T6, X6, E6, g6⟩ := X4.callS hexec (LChA.law l t V i (lo8 (f i)) fm) hown (wks W (staticW "java/lang/String" 495 LChA.yN)) (wk W LChA.tab) (W := 0) (Nat.le_of_ble_eq_true rfl) (Nat.le_of_ble_eq_true rfl) (Nat.le_refl _) (Nat.le_refl _) (g := (mkF m 12 #[.val (.ref x), .val (.int (Int32.ofNat i))] [.int (Int32.ofNat i), .ref t])) rfl (by rw [hml]; rfl) c5 (argsL := [.ref t, .int (Int32.ofNat i)]) (rest := []) rfl rfl (by show 2 * 0 + 0 ≤ _; decide) (hb hbytes d12) (⟨rfl, hx.2.2.2.1.mv X4.warmed.alike hh4, (k2 i hi).1, s3.there X4.warmed.alike hh4, rf⟩)
    obtain ⟨rfl, q6⟩ := E6
    rw [chr8_lo8 hr.1 (k2 i hi).2] at g6
    exact ⟨T6, some (.int (f i)), _, _, _, X6, rfl, rfl, rfl, (fun h => by cases h), ⟨rfl, q6.trans hh4⟩, fun fs hl => Steps.trans g6 (X6.ireturnOut hexec hret (narrow_ch hr.1 hr.2) (Or.inr (Or.inr (Or.inr (Or.inl rfl)))) (hb hbytes d15) hl)⟩
  · exact absurd k0 (by decide)
theorem pays {l : Launch} {R : Room} {p : Program} {e : Env} {below : List Frame} {s : State} {sargs : Array Value} {len W : Nat} (x t : Addr) (V : Cell) (n : Nat) (f : Nat → Int32) (z : Int32) (fm : Value) (i : Nat) (htab : tab.before sargs s = true) (hfr : 4 ≤ R.frames) (hlo : W + 53 ≤ R.locals) :
    Back l R p e below s sargs yN len W (fun A₁ a₁ => A₁.cells + 0 ≤ R.cells ∧ A₁.slots + 0 ≤ R.slots ∧ P x t V n f z fm i a₁ A₁.U) (fun A₁ _ v₁ B₁ => E f i v₁ A₁.U B₁.U ∧ B₁.locs = A₁.locs ++ [] ∧ B₁.cells = A₁.cells + 0 ∧ B₁.slots = A₁.slots + 0) :=
  (law l x t V n f z fm i).pays htab hfr (by omega)
end ChN
end StrChars
namespace StrChars.Road
open Jvm Sem ClassFile Op Lib Jvm.Stand Jvm.Free Jvm.Free.XT
open Jvm.Lib.Cold (StaticIs)
/-- the words of String.charAt(int), the Latin-1 road alone -/
abbrev wordsChN : List Jvm.Cond := [.code ChN.yN ChN.yB 2 (some .char), .initialized ST, .fieldLink ST 9 ST "value" "[B", .fieldLink ST 38 ST "COMPACT_STRINGS" "Z", .fieldLink ST 15 ST "coder" "B", .code IsL.yN IsL.yB 1 (some .boolean), .methodLink ST 492 IsL.yN, .declares IsL.yN, .selects ST IsL.yN IsL.yN, .instanceMethod IsL.yN,
  .methodLink ST 495 LChA.yN, .static LChA.yN, .code LChA.yN LChA.yB 2 (some .char), .initialized "java/lang/StringLatin1", .methodLink "java/lang/StringLatin1" 9 JO.Str_checkIndex.yN, .static JO.Str_checkIndex.yN, .code JO.Str_checkIndex.yN JO.Str_checkIndex.yB 2 none,
  .fieldLink ST 1053 "jdk/internal/util/Preconditions" "SIOOBE_FORMATTER" "Ljava/util/function/BiFunction;", .methodLink ST 1059 JC.PreCheck.yN, .static JC.PreCheck.yN, .code JC.PreCheck.yN JC.PreCheck.yB 3 (some .int), .initialized "jdk/internal/util/Preconditions"]
theorem tabChN_of {a : Array Value} {s : State} (h : ∀ w ∈ wordsChN, w.before a s = true) : ChN.tab.before a s = true := by
  have hp : JC.PreCheck.tab.before a s = true := unparts (wk h (.code JC.PreCheck.yN JC.PreCheck.yB 3 (some .int))) (wks h (.initialized JC.PreCheck.yN.cls :: JC.PreCheck.site))
  have qk := consq hp h
  have hk : JO.Str_checkIndex.tab.before a s = true := unparts (wk qk (.code JO.Str_checkIndex.yN JO.Str_checkIndex.yB 2 none)) (wks qk (.initialized JO.Str_checkIndex.yN.cls :: JO.Str_checkIndex.site))
  have ql := consq hk h
  have hl : LChA.tab.before a s = true := unparts (wk ql (.code LChA.yN LChA.yB 2 (some .char))) (wks ql (.initialized LChA.yN.cls :: LChA.site))
  have hi : IsL.tab.before a s = true := unparts (wk h (.code IsL.yN IsL.yB 1 (some .boolean))) (wks h (.initialized IsL.yN.cls :: IsL.site))
  have q := consq hi (consq hl h)
  exact unparts (wk q (.code ChN.yN ChN.yB 2 (some .char))) (wks q (.initialized ChN.yN.cls :: ChN.site))
theorem movedChN {Z s : State} {a0 args : Array Value} (hZ : Z.Warmed39 s.vm) (hw : ∀ d ∈ wordsChN, d.before a0 Z = true) : ∀ d ∈ wordsChN, d.before args s = true := fun d hd => by
  have t : ∀ d ∈ wordsChN, (d.onTables && d.keepsFace) = true := by decide +kernel
  exact RoadKit.mv hZ (hw d hd) (t d hd)
/-- **charAt(i) OF A LATIN-1 STRING**, i < n: the char -/
theorem chN {p : Program} {l : Launch} {e : Env} {R : Room} {s : State} {args : Array Value} {below : List Frame} {len W : Nat} {Z : State} {a0 : Array Value} {h : Heap} (hZ : Z.Warmed39 s.vm) (hw : ∀ d ∈ wordsChN, d.before a0 Z = true) {kI : Nat} (wi : (Jvm.Cond.instantiable ST kI).before a0 Z = true)
    {x t : Addr} {kb : ClassId} {cs : List Int32} {N2 z : Int32} {vs : List Value} {fm : Value} {i : Nat} {j : Int32} (E : RoadKit.Exa Z h x ST) (V : RoadKit.Fld Z h x ST "value" "[B" (.ref t)) (C : RoadKit.Fld Z h x ST "coder" "B" (.int 0)) (K : RoadKit.Arv Z h t kb .byte N2 vs (.int 0)) (hc : CodA cs 0 N2 vs) (hb : ∀ c ∈ cs, ¬ c < 0 ∧ ¬ (65535 : Int32) < c)
    (S : RoadKit.Sta Z h ST "COMPACT_STRINGS" "Z" (.int z)) (hz : ¬ z = 0) (F : RoadKit.Sta Z h "jdk/internal/util/Preconditions" "SIOOBE_FORMATTER" "Ljava/util/function/BiFunction;" fm) (rf : fm.isRef = true) (l2 : cs.length ≤ 4000) (hi : i < cs.length) (hj : j = Int32.ofNat i) (hfr : 4 ≤ R.frames) (hlo : W + 53 ≤ R.locals) :
    Back l R p e below s args (⟨"java/lang/String", "charAt", "(I)C"⟩ : MethodName) len W (fun P a => a = #[.ref x, .int j] ∧ P.U.heap = h ∧ P.cells + 0 ≤ R.cells ∧ P.slots + 0 ≤ R.slots)
      (fun P _ v B => ∃ L, (v = some (.int (cs.getD i 0)) ∧ L = [] ∧ B.U.heap = h) ∧ B.locs = P.locs ++ L ∧ B.cells = P.cells + 0 ∧ B.slots = P.slots + 0) := by
  subst hj
  intro m meth c P g ig mk a X hg hsize hdg hW hn hp'
  obtain ⟨rfl, rfl, r1, r2⟩ := hp'
  have al : Z.vm.Alike P.U.vm := hZ.alike.trans X.warmed.alike
  obtain ⟨A, hx⟩ := txt_of wi al E V C K hc hb l2
  obtain ⟨v, B, X', ⟨⟨hv, hh⟩, hl, hk, hs⟩, st⟩ := ChN.pays x t A cs.length (fun j => cs.getD j 0) z fm i (tabChN_of (movedChN hZ hw)) hfr hlo m meth c P g ig mk _ X hg hsize hdg hW hn ⟨r1, r2, rfl, hx, hi, sta_is al S, hz, sta_is al F, rf⟩
  exact ⟨v, B, X', ⟨[], ⟨hv, rfl, hh⟩, hl, hk, hs⟩, st⟩
/-- what backV says of its String, as the contracts of this text ask it: cs's low bytes, coder 0 -/
theorem codOf {cs : List Int32} {n : Nat} (hn : cs.length = n) (hb : ∀ c ∈ cs, ¬ 255 < c) : CodA cs 0 (Int32.ofNat n) ((cs.map lo8).map Value.int) := Or.inl ⟨rfl, by rw [hn], by simp [List.map_map, Function.comp_def], hb⟩
end StrChars.Road
end Jvm.Pilot.@@N@@
namespace Jvm.Pilot.@@N@@
open Jvm Jvm.ClassFile Sem Op Lib Jvm.Free Jvm.Stand Jvm.LawKit Jvm.RoadKit Bundle Jvm.OwK Jvm.Pilot.@@N@@.Jvm.D
theorem wd {a0 : Array Value} {Z : State} (hw : ∀ d ∈ tables_1, d.before a0 Z = true) (k : Nat) {d : Jvm.Cond} (h : tables_1[k]? = some d) : d.before a0 Z = true := hw _ (List.mem_of_getElem? h)
/-- the statics on which the String laws rest -/
def Gl (Z : State) : Prop := (∃ z : Int32, Sta Z Z.heap "java/lang/String" "COMPACT_STRINGS" "Z" (.int z) ∧ ¬ z = 0) ∧ ∃ v : Value, Sta Z Z.heap "jdk/internal/util/Preconditions" "SIOOBE_FORMATTER" "Ljava/util/function/BiFunction;" v ∧ v.isRef = true
section StrCalls
variable {nw : Prop} {EL : List (String × Nat)} {n0 : Nat} {Z : State} {a0 : Array Value} {p : Program} {l : Launch} {e : Env} {R : Room} {s : State} {args : Array Value} {below : List Frame} {h : Heap} {xs : List Addr} {wt : Nat}
theorem newStr (hE : EW Z a0 EL) (hw : ∀ d ∈ tables_1, d.before a0 Z = true) (G : Gl Z) {x b : Addr} {ka : ClassId} {cs : List Int32} (N : NewS Z h x) (A : CArr Z h b ka cs) (hm : n0 ≤ x ∧ x < h.size) (hx : x ∈ xs) (hp : ∀ c ∈ cs, ¬ c < 0 ∧ ¬ (255 : Int32) < c) (l0 : 0 < cs.length) (l2 : cs.length ≤ 4000) (hfr : 4 ≤ R.frames) (hlo : wt + 65 ≤ R.locals) :
    Call nw EL n0 Z xs l R p e below s args (⟨"java/lang/String", "<init>", "([C)V"⟩ : MethodName) 3 wt #[.ref x, .ref b] h 1 cs.length (RN fun h' => Keep h h' [x] ∧ Str Z h' x cs) := by
  obtain ⟨⟨z, O2, P5⟩, -⟩ := G
  have hws : ∀ d ∈ StrChars.Road.words, d.before a0 Z = true := fun d hd => hw d ((by decide +kernel : ∀ d ∈ StrChars.Road.words, d ∈ tables_1) d hd)
  refine Call.of_back hE (Qb := fun v h' Lc => StrChars.Road.QV Z x (Int32.ofNat cs.length) (cs.map fun c => c.toInt8.toInt32) h n0 v h' Lc) (fun vm0 hZ hO => StrChars.Road.backV (s := s.setVm vm0) hZ hws (kI := 4) (wd hw 2 rfl) (cs := cs) (n := cs.length) hm.1 (old_le hO) N.1 N.2.1 N.2.2 A (O2.ext hO.2) P5 rfl rfl l0 l2 hp rfl hfr hlo) (fun v h' Lc hO q => ?_)
  obtain ⟨q1, q2, q3, q4, q5, t, kb, t1, t2, t3, q6, q7⟩ := q
  exact ⟨⟨q1, q3, q4, q5, ⟨t, kb, q6, q7⟩, hp, l2⟩, q2, [x], q3, by simp [hx]⟩
theorem strLen (hE : EW Z a0 EL) (hw : ∀ d ∈ tables_1, d.before a0 Z = true) (G : Gl Z) {x : Addr} {cs : List Int32} (S : Str Z h x cs) (hfr : 2 ≤ R.frames) (hlo : wt + 25 ≤ R.locals) :
    Call nw EL n0 Z xs l R p e below s args (⟨"java/lang/String", "length", "()I"⟩ : MethodName) 3 wt #[.ref x] h 0 0 (RV fun w h' => w = .int (Int32.ofNat cs.length) ∧ h = h') := by
  obtain ⟨⟨z, O2, P5⟩, -⟩ := G
  obtain ⟨E, C, ⟨b, k, V, A⟩, hp, hl⟩ := S
  have hws : ∀ d ∈ StrChars.Road.wordsLen, d.before a0 Z = true := fun d hd => hw d ((by decide +kernel : ∀ d ∈ StrChars.Road.wordsLen, d ∈ tables_1) d hd)
  refine Call.of_back hE (Qb := fun v h' Lc => v = some (.int (Int32.ofNat cs.length)) ∧ Lc = [] ∧ h' = h) (fun vm0 hZ hO => StrChars.Road.lenW (s := s.setVm vm0) hZ hws (kI := 4) (wd hw 2 rfl) E V C A (StrChars.Road.codOf (n := cs.length) rfl (fun c hc => (hp c hc).2)) (up_chars cs hp) (O2.ext hO.2) P5 hl hfr hlo) (fun v h' Lc hO q => ?_)
  obtain ⟨rfl, rfl, rfl⟩ := q
  exact ⟨⟨_, rfl, rfl, rfl⟩, Fr.nil _, [], Keep.refl _ _, fun _ q => nomatch q⟩
theorem strAt (hE : EW Z a0 EL) (hw : ∀ d ∈ tables_1, d.before a0 Z = true) (G : Gl Z) {x : Addr} {cs : List Int32} {j : Int32} (i : Nat) (S : Str Z h x cs) (hi : i < cs.length) (hj : j = Int32.ofNat i) (hfr : 4 ≤ R.frames) (hlo : wt + 53 ≤ R.locals) :
    Call nw EL n0 Z xs l R p e below s args (⟨"java/lang/String", "charAt", "(I)C"⟩ : MethodName) 3 wt #[.ref x, .int j] h 0 0 (RV fun w h' => w = .int (cs.getD i 0) ∧ h = h') := by
  obtain ⟨⟨z, O2, P5⟩, ⟨fm, O4, rf⟩⟩ := G
  obtain ⟨E, C, ⟨b, k, V, A⟩, hp, hl⟩ := S
  have hws : ∀ d ∈ StrChars.Road.wordsChN, d.before a0 Z = true := fun d hd => hw d ((by decide +kernel : ∀ d ∈ StrChars.Road.wordsChN, d ∈ tables_1) d hd)
  refine Call.of_back hE (Qb := fun v h' Lc => v = some (.int (cs.getD i 0)) ∧ Lc = [] ∧ h' = h) (fun vm0 hZ hO => StrChars.Road.chN (s := s.setVm vm0) hZ hws (kI := 4) (wd hw 2 rfl) E V C A (StrChars.Road.codOf (n := cs.length) rfl (fun c hc => (hp c hc).2)) (up_chars cs hp) (O2.ext hO.2) P5 (O4.ext hO.2) rf hl hi hj hfr hlo) (fun v h' Lc hO q => ?_)
  obtain ⟨rfl, rfl, rfl⟩ := q
  exact ⟨⟨_, rfl, rfl, rfl⟩, Fr.nil _, [], Keep.refl _ _, fun _ q => nomatch q⟩
theorem strEq (hE : EW Z a0 EL) (hw : ∀ d ∈ tables_1, d.before a0 Z = true) (G : Gl Z) {x y : Addr} {cs ds : List Int32} (S : Str Z h x cs) (S' : Str Z h y ds) (hfr : 2 ≤ R.frames) (hlo : wt + 28 ≤ R.locals) :
    Call nw EL n0 Z xs l R p e below s args (⟨"java/lang/String", "equals", "(Ljava/lang/Object;)Z"⟩ : MethodName) 3 wt #[.ref x, .ref y] h 0 0 (RV fun w h' => w = .int (if cs = ds then 1 else 0) ∧ h = h') := by
  obtain ⟨⟨z, O2, P5⟩, -⟩ := G
  obtain ⟨E, C, ⟨b, k, V, A⟩, hp, hl⟩ := S
  obtain ⟨E', C', ⟨b', k', V', A'⟩, hp', hl'⟩ := S'
  have hws : ∀ d ∈ StrChars.Road.wordsEq, d.before a0 Z = true := fun d hd => hw d ((by decide +kernel : ∀ d ∈ StrChars.Road.wordsEq, d ∈ tables_1) d hd)
  refine Call.of_back hE (Qb := fun v h' Lc => ((v = some (.int 1) ∧ cs = ds) ∨ (v = some (.int 0) ∧ ¬ cs = ds)) ∧ Lc = [] ∧ h' = h) (fun vm0 hZ hO => StrChars.Road.eqW (s := s.setVm vm0) hZ hws (kI := 4) (wd hw 2 rfl) E V C A (StrChars.Road.codOf (n := cs.length) rfl (fun c hc => (hp c hc).2)) (up_chars cs hp) hl E' V' C' A' (StrChars.Road.codOf (n := ds.length) rfl (fun c hc => (hp' c hc).2)) (up_chars ds hp') hl' (O2.ext hO.2) P5 hfr hlo) (fun v h' Lc hO q => ?_)
  obtain ⟨hv, rfl, rfl⟩ := q
  refine ⟨⟨.int (if cs = ds then 1 else 0), ?_, rfl, rfl⟩, Fr.nil _, [], Keep.refl _ _, fun _ q => nomatch q⟩
  rcases hv with ⟨rfl, q⟩ | ⟨rfl, q⟩
  · rw [if_pos q]
  · rw [if_neg q]
end StrCalls
def EL0 : List (String × Nat) := [("com/example/serialis/serialis/marc/MarcFormatByLabelPinLaw", 20), ("com/example/serialis/serialis/marc/MarcFormatByLabelPinLaw", 22), ("java/lang/String", 7)]
abbrev NW : Prop := False
theorem wS {a0 : Array Value} {Z : State} (hw : ∀ d ∈ tables_1, d.before a0 Z = true) : ∀ a ∈ Bundle.stringAtoms, a.before a0 Z = true := fun d hd => hw d ((by decide +kernel : ∀ d ∈ Bundle.stringAtoms, d ∈ tables_1) d hd)
theorem pn_0 : plainName "java/lang/String" = true := by first | (simp [plainName, overriddenIn]; done) | decide +kernel
theorem d_jdk_42_method_149_0 : Dec jdk_42_method_149_code 0 (.aload_n 0) 1 1 := ⟨by decide +kernel, rfl⟩
theorem d_jdk_42_method_149_1 : Dec jdk_42_method_149_code 1 (.invokespecial 1) 3 4 := ⟨by decide +kernel, rfl⟩
theorem d_jdk_42_method_149_4 : Dec jdk_42_method_149_code 4 (.iload_n 3) 1 5 := ⟨by decide +kernel, rfl⟩
theorem d_jdk_42_method_149_5 : Dec jdk_42_method_149_code 5 (.ifCond .ne 22) 3 8 := ⟨by decide +kernel, rfl⟩
theorem d_jdk_42_method_149_8 : Dec jdk_42_method_149_code 8 (.aload_n 0) 1 9 := ⟨by decide +kernel, rfl⟩
theorem d_jdk_42_method_149_9 : Dec jdk_42_method_149_code 9 (.ldc 7) 2 11 := ⟨by decide +kernel, rfl⟩
theorem d_jdk_42_method_149_11 : Dec jdk_42_method_149_code 11 (.getfield 9) 3 14 := ⟨by decide +kernel, rfl⟩
theorem d_jdk_42_method_149_14 : Dec jdk_42_method_149_code 14 (.putfield 9) 3 17 := ⟨by decide +kernel, rfl⟩
theorem d_jdk_42_method_149_17 : Dec jdk_42_method_149_code 17 (.aload_n 0) 1 18 := ⟨by decide +kernel, rfl⟩
theorem d_jdk_42_method_149_18 : Dec jdk_42_method_149_code 18 (.ldc 7) 2 20 := ⟨by decide +kernel, rfl⟩
theorem d_jdk_42_method_149_20 : Dec jdk_42_method_149_code 20 (.getfield 15) 3 23 := ⟨by decide +kernel, rfl⟩
theorem d_jdk_42_method_149_23 : Dec jdk_42_method_149_code 23 (.putfield 15) 3 26 := ⟨by decide +kernel, rfl⟩
theorem d_jdk_42_method_149_26 : Dec jdk_42_method_149_code 26 (.return_) 1 27 := ⟨by decide +kernel, rfl⟩
set_option maxRecDepth 65536 in
set_option maxHeartbeats 40000000 in
theorem c_s149 (l : Launch) (Z : State) (a0 : Array Value) (hw : ∀ d ∈ tables_1, d.before a0 Z = true) (hE : EW Z a0 EL0) {n0 : Nat} {h0 : Heap} (hO : Old Z n0 h0) {x b : Addr} (hx : n0 ≤ x) (N_x : NewS Z h0 x) :
    Ctr NW EL0 n0 Z [x] l (⟨"java/lang/String", "<init>", "([CIILjava/lang/Void;)V"⟩ : MethodName) jdk_42_method_149_code 6 none ({ frames := 1, cells := 4, slots := 8, locals := 17 } : Room) #[.ref x, .ref b, .int 0, .int 0, .null] h0 (RN fun h => Keep h0 h [x] ∧ Str Z h x []) := by
  refine Ctr.body (plainFor_of_name pn_0) hE hO (fun y q => by cases List.mem_singleton.mp q; exact ⟨hx, N_x.1.lt⟩) (L0 := #[.val (.ref x), .val (.ref b), .val (.int (0 : Int32)), .val (.int (0 : Int32)), .val .null, .unset]) (fun m => by first | (simp [entryFrame, mkF, argsToLocals, Value.category, maxLocals]; done) | rfl) ?_
  intro p e s m below meth c T0 W0
  refine Go.aload_n W0.cx d_jdk_42_method_149_0 (v := (.ref x)) rfl rfl ?_
  refine Go.initObj W0 d_jdk_42_method_149_1 (wd hw 60 rfl) (wd hw 61 rfl) (wd hw 62 rfl) rfl (by decide) (wt := 0) rfl (by decide) ?_
  intro T1 W1
  refine Go.iload_n W1.cx d_jdk_42_method_149_4 (v := (0 : Int32)) rfl ?_
  refine Go.ifne W1.cx d_jdk_42_method_149_5 (by decide) (q := 27) rfl (fun hh => (by first | exact absurd (rfl : (0 : Int32) = 0) hh | exact absurd hh (rfl : (0 : Int32) = 0))) (fun _ => ?_)
  refine Go.aload_n W1.cx d_jdk_42_method_149_8 (v := (.ref x)) rfl rfl ?_
  refine Go.ldcS W1 (fun q => q) d_jdk_42_method_149_9 (wd hw 63 rfl) (wS hw) (by decide) (cs := []) ⟨by decide, by decide +kernel⟩ (by decide) (by decide) (nn := 0) (by decide) (by decide) (cells' := 2) (slots' := 4) rfl rfl (by decide) (by decide) ?_
  intro T2 h2 l2 b2 kb2 W2 E2 A2 C2 V2 B2 X2 S2
  have N2 := N_x.ext E2
  refine Go.getf W2 d_jdk_42_method_149_11 (wd hw 13 rfl) Via.refl V2 ?_
  intro T3 W3
  refine Go.putf W3 d_jdk_42_method_149_14 (wd hw 13 rfl) Via.refl N2.2.1 N2.1 (Or.inr ⟨(wd hw 4 rfl), rfl, rfl⟩) (wd hw 2 rfl) (t := (.array .byte)) (by decide) (v' := (.ref b2)) rfl rfl (by simp) ?_
  intro T4 h4 W4 R4
  have B4 := B2.other R4 (Ne.symm (X2 x (by simp)).2)
  have F4 := N2.2.1.same R4
  have M4 := N2.1.wr R4
  have C4 := N2.2.2.other R4 (Or.inr (slot_ne (Or.inr (wd hw 5 rfl)) (Or.inr (wd hw 4 rfl)) (by decide) (t := .byte) (t' := .array .byte) (by decide) (by decide)))
  have Q4 : Keep h0 h4 [x] := ((Keep.refl h0 [x]).ext E2).wr R4 (Or.inl (by simp))
  refine Go.aload_n W4.cx d_jdk_42_method_149_17 (v := (.ref x)) rfl rfl ?_
  refine Go.ldcS W4 (fun q => q) d_jdk_42_method_149_18 (wd hw 63 rfl) (wS hw) (by decide) (cs := []) ⟨by decide, by decide +kernel⟩ (by decide) (by decide) (nn := 0) (by decide) (by decide) (cells' := 4) (slots' := 8) rfl rfl (by decide) (by decide) ?_
  intro T5 h5 l5 b5 kb5 W5 E5 A5 C5 V5 B5 X5 S5
  refine Go.getf W5 d_jdk_42_method_149_20 (wd hw 20 rfl) Via.refl C5 ?_
  intro T6 W6
  refine Go.putf W6 d_jdk_42_method_149_23 (wd hw 20 rfl) Via.refl (C4.ext E5) (M4.ext E5) (Or.inr ⟨(wd hw 5 rfl), rfl, rfl⟩) (wd hw 2 rfl) (t := .byte) (by decide) (v' := (.int 0)) rfl rfl (by simp) ?_
  intro T7 h7 W7 R7
  have F7 := (F4.ext E5).other R7 (Or.inr (slot_ne (Or.inr (wd hw 4 rfl)) (Or.inr (wd hw 5 rfl)) (by decide) (t := .array .byte) (t' := .byte) (by decide) (by decide)))
  have B7 := (B4.ext E5).other R7 (Ne.symm (X2 x (by simp)).2)
  exact Go.vret W7 d_jdk_42_method_149_26 (by decide) (by decide) ⟨rfl, (Q4.ext E5).wr R7 (Or.inl (by simp)), (M4.ext E5).wr R7, (C4.ext E5).same R7, ⟨b2, kb2, F7, B7⟩, all_nil, by decide⟩
theorem d_jdk_42_method_3_0 : Dec jdk_42_method_3_code 0 (.aload_n 0) 1 1 := ⟨by decide +kernel, rfl⟩
theorem d_jdk_42_method_3_1 : Dec jdk_42_method_3_code 1 (.aload_n 1) 1 2 := ⟨by decide +kernel, rfl⟩
theorem d_jdk_42_method_3_2 : Dec jdk_42_method_3_code 2 (.iconst 0) 1 3 := ⟨by decide +kernel, rfl⟩
theorem d_jdk_42_method_3_3 : Dec jdk_42_method_3_code 3 (.aload_n 1) 1 4 := ⟨by decide +kernel, rfl⟩
theorem d_jdk_42_method_3_4 : Dec jdk_42_method_3_code 4 (.arraylength) 1 5 := ⟨by decide +kernel, rfl⟩
theorem d_jdk_42_method_3_5 : Dec jdk_42_method_3_code 5 (.aconst_null) 1 6 := ⟨by decide +kernel, rfl⟩
theorem d_jdk_42_method_3_6 : Dec jdk_42_method_3_code 6 (.invokespecial 27) 3 9 := ⟨by decide +kernel, rfl⟩
theorem pd_0 : parseMethodDescriptor "([CIILjava/lang/Void;)V" = some ⟨[(.array .char), .int, .int, (.object "java/lang/Void")], none⟩ := by decide +kernel
theorem d_jdk_42_method_3_9 : Dec jdk_42_method_3_code 9 (.return_) 1 10 := ⟨by decide +kernel, rfl⟩
set_option maxRecDepth 65536 in
set_option maxHeartbeats 40000000 in
theorem c_s3 (l : Launch) (Z : State) (a0 : Array Value) (hw : ∀ d ∈ tables_1, d.before a0 Z = true) (hE : EW Z a0 EL0) {n0 : Nat} {h0 : Heap} (hO : Old Z n0 h0) {x b : Addr} {ka : ClassId} (hx : n0 ≤ x) (N_x : NewS Z h0 x) (A : CArr Z h0 b ka []) :
    Ctr NW EL0 n0 Z [x] l (⟨"java/lang/String", "<init>", "([C)V"⟩ : MethodName) jdk_42_method_3_code 2 none ({ frames := 2, cells := 4, slots := 8, locals := 34 } : Room) #[.ref x, .ref b] h0 (RN fun h => Keep h0 h [x] ∧ Str Z h x []) := by
  refine Ctr.body (plainFor_of_name pn_0) hE hO (fun y q => by cases List.mem_singleton.mp q; exact ⟨hx, N_x.1.lt⟩) (L0 := #[.val (.ref x), .val (.ref b)]) (fun m => by first | (simp [entryFrame, mkF, argsToLocals, Value.category, maxLocals]; done) | rfl) ?_
  intro p e s m below meth c T0 W0
  refine Go.aload_n W0.cx d_jdk_42_method_3_0 (v := (.ref x)) rfl rfl ?_
  refine Go.aload_n W0.cx d_jdk_42_method_3_1 (v := (.ref b)) rfl rfl ?_
  refine Go.iconst W0.cx d_jdk_42_method_3_2 (z := (0 : Int32)) rfl ?_
  refine Go.aload_n W0.cx d_jdk_42_method_3_3 (v := (.ref b)) rfl rfl ?_
  refine Go.alen W0 d_jdk_42_method_3_4 A ?_
  refine Go.aconst_null W0.cx d_jdk_42_method_3_5 ?_
  refine Go.invi W0 (Ctr.call (wt := 0) (c_s149 l Z a0 hw hE hO hx N_x) W0.ew (wd hw 59 rfl) (wd hw 1 rfl) (by simp) (by decide) (by decide)) d_jdk_42_method_3_6 rfl (wd hw 56 rfl) (wd hw 57 rfl) (wd hw 59 rfl) (by decide) pd_0 rfl rfl (rest := []) rfl (Nat.le_of_eq rfl) (cells' := 4) (slots' := 8) rfl rfl (by decide) (by decide) ?_
  rintro T1 h1 W1 z1 ⟨K1, S1⟩
  exact Go.vret W1 d_jdk_42_method_3_9 (by decide) (by decide) ⟨rfl, K1, S1⟩
theorem tk1 {cs : List Int32} (h : 1 ≤ cs.length) : cs.take 1 = [cs.getD 0 0] := by
  match cs, h with
  | x0 :: r, _ => simp
theorem tk2 {cs : List Int32} (h : 2 ≤ cs.length) : cs.take 2 = [cs.getD 0 0, cs.getD 1 0] := by
  match cs, h with
  | x0 :: x1 :: r, _ => simp
theorem tk3 {cs : List Int32} (h : 3 ≤ cs.length) : cs.take 3 = [cs.getD 0 0, cs.getD 1 0, cs.getD 2 0] := by
  match cs, h with
  | x0 :: x1 :: x2 :: r, _ => simp
theorem tk4 {cs : List Int32} (h : 4 ≤ cs.length) : cs.take 4 = [cs.getD 0 0, cs.getD 1 0, cs.getD 2 0, cs.getD 3 0] := by
  match cs, h with
  | x0 :: x1 :: x2 :: x3 :: r, _ => simp
theorem tk5 {cs : List Int32} (h : 5 ≤ cs.length) : cs.take 5 = [cs.getD 0 0, cs.getD 1 0, cs.getD 2 0, cs.getD 3 0, cs.getD 4 0] := by
  match cs, h with
  | x0 :: x1 :: x2 :: x3 :: x4 :: r, _ => simp
theorem tk6 {cs : List Int32} (h : 6 ≤ cs.length) : cs.take 6 = [cs.getD 0 0, cs.getD 1 0, cs.getD 2 0, cs.getD 3 0, cs.getD 4 0, cs.getD 5 0] := by
  match cs, h with
  | x0 :: x1 :: x2 :: x3 :: x4 :: x5 :: r, _ => simp
theorem tk7 {cs : List Int32} (h : 7 ≤ cs.length) : cs.take 7 = [cs.getD 0 0, cs.getD 1 0, cs.getD 2 0, cs.getD 3 0, cs.getD 4 0, cs.getD 5 0, cs.getD 6 0] := by
  match cs, h with
  | x0 :: x1 :: x2 :: x3 :: x4 :: x5 :: x6 :: r, _ => simp
theorem tk8 {cs : List Int32} (h : 8 ≤ cs.length) : cs.take 8 = [cs.getD 0 0, cs.getD 1 0, cs.getD 2 0, cs.getD 3 0, cs.getD 4 0, cs.getD 5 0, cs.getD 6 0, cs.getD 7 0] := by
  match cs, h with
  | x0 :: x1 :: x2 :: x3 :: x4 :: x5 :: x6 :: x7 :: r, _ => simp

def MARC : List Int32 := [109, 97, 114, 99, 50, 49]
def UNI : List Int32 := [117, 110, 105, 109, 97, 114, 99]
def Mf (Z : State) (m0 m1 : Addr) : Prop := ∃ vA l0 l1 em : Addr, Sta Z Z.heap "com/example/serialis/serialis/marc/MarcFormat" "$VALUES" "[Lcom/example/serialis/serialis/marc/MarcFormat;" (.ref vA) ∧ OAr Z Z.heap vA "com/example/serialis/serialis/marc/MarcFormat" "[Lcom/example/serialis/serialis/marc/MarcFormat;" [.ref m0, .ref m1] ∧ Fld Z Z.heap m0 "com/example/serialis/serialis/marc/MarcFormat" "label" "Ljava/lang/String;" (.ref l0) ∧ Fld Z Z.heap m1 "com/example/serialis/serialis/marc/MarcFormat" "label" "Ljava/lang/String;" (.ref l1) ∧ Str Z Z.heap l0 MARC ∧ Str Z Z.heap l1 UNI ∧ Sta Z Z.heap "java/util/Optional" "EMPTY" "Ljava/util/Optional;" (.ref em) ∧ Exa Z Z.heap em "java/util/Optional" ∧ Fld Z Z.heap em "java/util/Optional" "value" "Ljava/lang/Object;" .null ∧ Sta Z Z.heap "com/example/serialis/serialis/marc/MarcFormat" "MARC21" "Lcom/example/serialis/serialis/marc/MarcFormat;" (.ref m0) ∧ Sta Z Z.heap "com/example/serialis/serialis/marc/MarcFormat" "UNIMARC" "Lcom/example/serialis/serialis/marc/MarcFormat;" (.ref m1)
theorem eq_ref_of {args : Array Value} {Z : State} {u t : Term} {a : Addr} (h : (Cond.eq u t).value args Z none Z [] = some true) (ht : t.eval args Z none [] Z = some (.ref a)) : u.eval args Z none [] Z = some (.ref a) := by
  obtain ⟨x, y, hx1, hy1, -⟩ := cmp_v (Or.inl h)
  rw [ht] at hy1; cases hy1
  cases x with
  | ref i => rw [hx1, gotT (eq_R hx1 ht rfl rfl) h]
  | null => exact absurd (gotT (eq_R hx1 ht rfl rfl) h) (by simp)
  | _ => simp [Cond.value, hx1, ht] at h
theorem oar2 {args : Array Value} {Z : State} {t t0 t1 : Term} {C ad : String} {a m0 m1 : Addr} (ha : (Cond.arrayOf t (.object C)).value args Z none Z [] = some true) (hx : (Cond.exactly t ad).value args Z none Z [] = some true) (hl : (Cond.eq (Term.length t) (Term.int 2)).value args Z none Z [] = some true)
    (e0 : (Cond.eq (Term.elem t (Term.int 0)) t0).value args Z none Z [] = some true) (e1 : (Cond.eq (Term.elem t (Term.int 1)) t1).value args Z none Z [] = some true) (ev : t.eval args Z none [] Z = some (.ref a)) (q0 : t0.eval args Z none [] Z = some (.ref m0)) (q1 : t1.eval args Z none [] Z = some (.ref m1)) : OAr Z Z.heap a C ad [.ref m0, .ref m1] := by
  obtain ⟨cl, A⟩ := Arr.start ev ha
  obtain ⟨b', cl', eb', ec', hsz, el⟩ := Jvm.Lib.length_spec (eq_int_of hl)
  cases ev.symm.trans eb'
  have hcl : cl' = cl := by
    have := A.1
    simp only [State.arrayAt?, Option.bind_eq_bind, Option.bind_eq_some_iff] at ec'
    obtain ⟨c1, h1, k1, -, h2⟩ := ec'
    rw [this] at h1
    cases h1
    split at h2
    · cases h2
    · split at h2
      · exact (Option.some.inj h2).symm
      · cases h2
  subst hcl
  have hs2 : cl'.slots.size = 2 := ((eq_nat (a := 2) (by omega) hsz).mp (show Int32.ofNat 2 = Int32.ofNat cl'.slots.size from Value.int.inj el)).symm
  have s0 := elem_slot (i := 0) ev A.1 (by omega) (eq_ref_of e0 q0)
  have s1 := elem_slot (i := 1) ev A.1 (by omega) (eq_ref_of e1 q1)
  refine ⟨cl', A, Exa.start ev hx, Array.ext (by simp [hs2]) (fun i h1 h2 => ?_), by simp [Value.isRef]⟩
  rcases (show i = 0 ∨ i = 1 by omega) with rfl | rfl
  · rw [Array.getElem?_eq_getElem h1] at s0; simpa using s0
  · rw [Array.getElem?_eq_getElem h1] at s1; simpa using s1
theorem pn_1 : plainName "com/example/serialis/serialis/marc/MarcFormatByLabelPinLaw" = true := by first | (simp [plainName, overriddenIn]; done) | decide +kernel
theorem d_method_2_0 : Dec method_2_code 0 (.iload_n 1) 1 1 := ⟨by decide +kernel, rfl⟩
theorem d_method_2_1 : Dec method_2_code 1 (.aload_n 0) 1 2 := ⟨by decide +kernel, rfl⟩
theorem d_method_2_2 : Dec method_2_code 2 (.invokevirtual 7) 3 5 := ⟨by decide +kernel, rfl⟩
theorem pd_1 : parseMethodDescriptor "()I" = some ⟨[], some .int⟩ := by decide +kernel
theorem d_method_2_5 : Dec method_2_code 5 (.if_icmp .ge 11) 3 8 := ⟨by decide +kernel, rfl⟩
theorem d_method_2_16 : Dec method_2_code 16 (.iload_n 2) 1 17 := ⟨by decide +kernel, rfl⟩
theorem d_method_2_17 : Dec method_2_code 17 (.ireturn) 1 18 := ⟨by decide +kernel, rfl⟩
theorem d_method_2_8 : Dec method_2_code 8 (.aload_n 0) 1 9 := ⟨by decide +kernel, rfl⟩
theorem d_method_2_9 : Dec method_2_code 9 (.iload_n 1) 1 10 := ⟨by decide +kernel, rfl⟩
theorem d_method_2_10 : Dec method_2_code 10 (.invokevirtual 13) 3 13 := ⟨by decide +kernel, rfl⟩
theorem pd_2 : parseMethodDescriptor "(I)C" = some ⟨[.int], some .char⟩ := by decide +kernel
theorem d_method_2_13 : Dec method_2_code 13 (.goto 4) 3 16 := ⟨by decide +kernel, rfl⟩
set_option maxRecDepth 65536 in
set_option maxHeartbeats 40000000 in
theorem c_at (l : Launch) (Z : State) (a0 : Array Value) (hw : ∀ d ∈ tables_1, d.before a0 Z = true) (hE : EW Z a0 EL0) {n0 : Nat} {h0 : Heap} (hO : Old Z n0 h0) (hG : Gl Z) {a : Addr} {cs : List Int32} (S : Str Z h0 a cs) {i : Nat} (hi : i < 2 ^ 31) {x : Int32} (hx : ¬ x < 0 ∧ ¬ (255 : Int32) < x) :
    Ctr NW EL0 n0 Z [] l (⟨"com/example/serialis/serialis/marc/MarcFormatByLabelPinLaw", "at", "(Ljava/lang/String;IC)C"⟩ : MethodName) method_2_code 3 (some .char) ({ frames := 4, cells := 0, slots := 0, locals := 53 } : Room) #[.ref a, .int (Int32.ofNat i), .int x] h0 (RV fun w h => ∃ v : Int32, w = .int v ∧ (¬ v < 0 ∧ ¬ (255 : Int32) < v) ∧ h0 = h) := by
  refine Ctr.body (plainFor_of_name pn_1) hE hO (fun x q => nomatch q) (L0 := #[.val (.ref a), .val (.int (Int32.ofNat i)), .val (.int x)]) (fun m => by first | (simp [entryFrame, mkF, argsToLocals, Value.category, maxLocals]; done) | rfl) ?_
  intro p e s m below meth c T0 W0
  have hcl := S.2.2.2.2
  have hpc := S.2.2.2.1
  have hlt := lt_nat (a := i) (b := cs.length) hi (by omega)
  refine Go.iload_n W0.cx d_method_2_0 (v := (Int32.ofNat i)) rfl ?_
  refine Go.aload_n W0.cx d_method_2_1 (v := (.ref a)) rfl rfl ?_
  refine Go.invv1 W0 (strLen (wt := 1) W0.ew hw hG S (by decide) (by decide)) d_method_2_2 (wd hw 8 rfl) (wd hw 9 rfl) (wd hw 11 rfl) (wd hw 10 rfl) (by decide) S.exa pd_1 rfl rfl (rest := [(.int (Int32.ofNat i))]) rfl (Nat.le_of_eq rfl) (cells' := 0) (slots' := 0) rfl rfl (by decide) (by decide) ?_
  rintro T1 h1 _ W1 z1 ⟨rfl, e1⟩
  subst e1
  refine Go.icge W1.cx d_method_2_5 (by decide) (q := 16) rfl (fun c1 => ?_) (fun c1 => ?_)
  · refine Go.iload_n W1.cx d_method_2_16 (v := x) rfl ?_
    exact Go.iret W1 d_method_2_17 (by simp) (narrow_ch hx) (by decide) (by decide) ⟨_, rfl, _, rfl, hx, rfl⟩
  · refine Go.aload_n W1.cx d_method_2_8 (v := (.ref a)) rfl rfl ?_
    refine Go.iload_n W1.cx d_method_2_9 (v := (Int32.ofNat i)) rfl ?_
    refine Go.invv1 W1 (strAt (wt := 0) W1.ew hw hG i S (hlt.mp c1) rfl (by decide) (by decide)) d_method_2_10 (wd hw 26 rfl) (wd hw 27 rfl) (wd hw 29 rfl) (wd hw 28 rfl) (by decide) S.exa pd_2 rfl rfl (rest := []) rfl (Nat.le_of_eq rfl) (cells' := 0) (slots' := 0) rfl rfl (by decide) (by decide) ?_
    rintro T2 h2 _ W2 z2 ⟨rfl, e2⟩
    subst e2
    refine Go.goto W2.cx d_method_2_13 (by decide) (q := 17) rfl ?_
    exact Go.iret W2 d_method_2_17 (by simp) (narrow_ch (getD_ch hpc (hlt.mp c1))) (by decide) (by decide) ⟨_, rfl, _, rfl, getD_ch hpc (hlt.mp c1), rfl⟩
theorem d_method_3_0 : Dec method_3_code 0 (.iload_n 1) 1 1 := ⟨by decide +kernel, rfl⟩
theorem d_method_3_1 : Dec method_3_code 1 (.ifCond .ne 14) 3 4 := ⟨by decide +kernel, rfl⟩
theorem d_method_3_4 : Dec method_3_code 4 (.new 8) 3 7 := ⟨by decide +kernel, rfl⟩
theorem d_method_3_7 : Dec method_3_code 7 (.dup) 1 8 := ⟨by decide +kernel, rfl⟩
theorem d_method_3_8 : Dec method_3_code 8 (.iconst 0) 1 9 := ⟨by decide +kernel, rfl⟩
theorem d_method_3_9 : Dec method_3_code 9 (.newarray .char) 2 11 := ⟨by decide +kernel, rfl⟩
theorem d_method_3_11 : Dec method_3_code 11 (.invokespecial 17) 3 14 := ⟨by decide +kernel, rfl⟩
theorem pd_3 : parseMethodDescriptor "([C)V" = some ⟨[(.array .char)], none⟩ := by decide +kernel
theorem d_method_3_14 : Dec method_3_code 14 (.areturn) 1 15 := ⟨by decide +kernel, rfl⟩
set_option maxRecDepth 65536 in
set_option maxHeartbeats 40000000 in
theorem c_make0 (l : Launch) (Z : State) (a0 : Array Value) (hw : ∀ d ∈ tables_1, d.before a0 Z = true) (hE : EW Z a0 EL0) {n0 : Nat} {h0 : Heap} (hO : Old Z n0 h0) (hG : Gl Z) {a : Addr} {ka : ClassId} {cs : List Int32} (A : CArr Z h0 a ka cs) (hp : ∀ c ∈ cs, ¬ c < 0 ∧ ¬ (255 : Int32) < c) (hcl : cs.length ≤ 4000) (hn2 : 0 ≤ cs.length) :
    Ctr NW EL0 n0 Z [] l (⟨"com/example/serialis/serialis/marc/MarcFormatByLabelPinLaw", "make", "([CI)Ljava/lang/String;"⟩ : MethodName) method_3_code 2 (some (.object "java/lang/String")) ({ frames := 4, cells := 6, slots := 20, locals := 66 } : Room) #[.ref a, .int (Int32.ofNat 0)] h0 (RV fun w h => ∃ r, w = .ref r ∧ Ext h0 h ∧ Str Z h r (cs.take 0)) := by
  refine Ctr.body (plainFor_of_name pn_1) hE hO (fun x q => nomatch q) (L0 := #[.val (.ref a), .val (.int (Int32.ofNat 0))]) (fun m => by first | (simp [entryFrame, mkF, argsToLocals, Value.category, maxLocals]; done) | rfl) ?_
  intro p e s m below meth c T0 W0
  refine Go.iload_n W0.cx d_method_3_0 (v := (Int32.ofNat 0)) rfl ?_
  refine Go.ifne W0.cx d_method_3_1 (by decide) (q := 15) rfl (fun hh => (by first | exact absurd (by decide : Int32.ofNat 0 = 0) hh | exact absurd hh (by decide : Int32.ofNat 0 = 0))) (fun _ => ?_)
  refine Go.new W0 d_method_3_4 (wd hw 52 rfl) (wd hw 2 rfl) (wd hw 1 rfl) (cells' := 1) (slots' := 4) rfl rfl (by decide) (by decide) ?_
  intro T1 h1 a1 g1 W1 E1 A1 D1
  have N1 : NewS Z h1 a1 := ⟨A1, D1 (Or.inr (wd hw 4 rfl)) (t := .array .byte) (by decide), D1 (Or.inr (wd hw 5 rfl)) (t := .byte) (by decide)⟩
  refine Go.dup W1.cx d_method_3_7 rfl ?_
  refine Go.iconst W1.cx d_method_3_8 (z := (0 : Int32)) rfl ?_
  refine Go.newarr W1 d_method_3_9 (wd hw 21 rfl) (z := (0 : Int32)) (cap := 0) (by decide) (by decide) (by decide) (cells' := 2) (slots' := 4) rfl rfl (by decide) (by decide) ?_
  intro T2 h2 a2 ka2 g2 W2 E2 A2
  have V2 : CArr Z h2 a2 ka2 [] := CArr.of_new A2 (k := 0) rfl rfl
  have X2 : Ext h0 h2 := ext_trans E1 E2
  have N2 := N1.ext E2
  refine Go.invi W2 (Ctr.call (wt := 1) (c_s3 l Z a0 hw hE W2.old (W2.mine (by simp)).1 N2 V2) W2.ew (wd hw 55 rfl) (wd hw 1 rfl) (by simp) (by decide) (by decide)) d_method_3_11 rfl (wd hw 53 rfl) (wd hw 54 rfl) (wd hw 55 rfl) (by decide) pd_3 rfl rfl (rest := [(.ref a1)]) rfl (Nat.le_of_eq rfl) (cells' := 6) (slots' := 12) rfl rfl (by decide) (by decide) ?_
  rintro T3 h3 W3 z3 ⟨K3, S3⟩
  have X3 : Ext h0 h3 := ext_keep X2 K3 (all1 (Nat.le_of_eq g1.symm))
  exact Go.aret W3 d_method_3_14 rfl rfl rfl (by decide) (by decide) ⟨_, rfl, a1, rfl, X3, S3⟩
theorem d_method_3_15 : Dec method_3_code 15 (.iload_n 1) 1 16 := ⟨by decide +kernel, rfl⟩
theorem d_method_3_16 : Dec method_3_code 16 (.iconst 1) 1 17 := ⟨by decide +kernel, rfl⟩
theorem d_method_3_17 : Dec method_3_code 17 (.if_icmp .ne 20) 3 20 := ⟨by decide +kernel, rfl⟩
theorem d_method_3_20 : Dec method_3_code 20 (.new 8) 3 23 := ⟨by decide +kernel, rfl⟩
theorem d_method_3_23 : Dec method_3_code 23 (.dup) 1 24 := ⟨by decide +kernel, rfl⟩
theorem d_method_3_24 : Dec method_3_code 24 (.iconst 1) 1 25 := ⟨by decide +kernel, rfl⟩
theorem d_method_3_25 : Dec method_3_code 25 (.newarray .char) 2 27 := ⟨by decide +kernel, rfl⟩
theorem d_method_3_27 : Dec method_3_code 27 (.dup) 1 28 := ⟨by decide +kernel, rfl⟩
theorem d_method_3_28 : Dec method_3_code 28 (.iconst 0) 1 29 := ⟨by decide +kernel, rfl⟩
theorem d_method_3_29 : Dec method_3_code 29 (.aload_n 0) 1 30 := ⟨by decide +kernel, rfl⟩
theorem d_method_3_30 : Dec method_3_code 30 (.iconst 0) 1 31 := ⟨by decide +kernel, rfl⟩
theorem d_method_3_31 : Dec method_3_code 31 (.caload) 1 32 := ⟨by decide +kernel, rfl⟩
theorem d_method_3_32 : Dec method_3_code 32 (.castore) 1 33 := ⟨by decide +kernel, rfl⟩
theorem d_method_3_33 : Dec method_3_code 33 (.invokespecial 17) 3 36 := ⟨by decide +kernel, rfl⟩
theorem d_method_3_36 : Dec method_3_code 36 (.areturn) 1 37 := ⟨by decide +kernel, rfl⟩
set_option maxRecDepth 65536 in
set_option maxHeartbeats 40000000 in
theorem c_make1 (l : Launch) (Z : State) (a0 : Array Value) (hw : ∀ d ∈ tables_1, d.before a0 Z = true) (hE : EW Z a0 EL0) {n0 : Nat} {h0 : Heap} (hO : Old Z n0 h0) (hG : Gl Z) {a : Addr} {ka : ClassId} {cs : List Int32} (A : CArr Z h0 a ka cs) (hp : ∀ c ∈ cs, ¬ c < 0 ∧ ¬ (255 : Int32) < c) (hcl : cs.length ≤ 4000) (hn2 : 1 ≤ cs.length) :
    Ctr NW EL0 n0 Z [] l (⟨"com/example/serialis/serialis/marc/MarcFormatByLabelPinLaw", "make", "([CI)Ljava/lang/String;"⟩ : MethodName) method_3_code 2 (some (.object "java/lang/String")) ({ frames := 4, cells := 6, slots := 20, locals := 66 } : Room) #[.ref a, .int (Int32.ofNat 1)] h0 (RV fun w h => ∃ r, w = .ref r ∧ Ext h0 h ∧ Str Z h r (cs.take 1)) := by
  refine Ctr.body (plainFor_of_name pn_1) hE hO (fun x q => nomatch q) (L0 := #[.val (.ref a), .val (.int (Int32.ofNat 1))]) (fun m => by first | (simp [entryFrame, mkF, argsToLocals, Value.category, maxLocals]; done) | rfl) ?_
  intro p e s m below meth c T0 W0
  refine Go.iload_n W0.cx d_method_3_0 (v := (Int32.ofNat 1)) rfl ?_
  refine Go.ifne W0.cx d_method_3_1 (by decide) (q := 15) rfl (fun _ => ?_) (fun hh => (by first | exact absurd (by decide : ¬ Int32.ofNat 1 = 0) hh | exact absurd hh (by decide : ¬ Int32.ofNat 1 = 0)))
  refine Go.iload_n W0.cx d_method_3_15 (v := (Int32.ofNat 1)) rfl ?_
  refine Go.iconst W0.cx d_method_3_16 (z := (1 : Int32)) rfl ?_
  refine Go.icne W0.cx d_method_3_17 (by decide) (q := 37) rfl (fun hh => (by first | exact absurd (by decide : Int32.ofNat 1 = 1) hh | exact absurd hh (by decide : Int32.ofNat 1 = 1))) (fun _ => ?_)
  refine Go.new W0 d_method_3_20 (wd hw 52 rfl) (wd hw 2 rfl) (wd hw 1 rfl) (cells' := 1) (slots' := 4) rfl rfl (by decide) (by decide) ?_
  intro T1 h1 a1 g1 W1 E1 A1 D1
  have N1 : NewS Z h1 a1 := ⟨A1, D1 (Or.inr (wd hw 4 rfl)) (t := .array .byte) (by decide), D1 (Or.inr (wd hw 5 rfl)) (t := .byte) (by decide)⟩
  refine Go.dup W1.cx d_method_3_23 rfl ?_
  refine Go.iconst W1.cx d_method_3_24 (z := (1 : Int32)) rfl ?_
  refine Go.newarr W1 d_method_3_25 (wd hw 21 rfl) (z := (1 : Int32)) (cap := 1) (by decide) (by decide) (by decide) (cells' := 2) (slots' := 5) rfl rfl (by decide) (by decide) ?_
  intro T2 h2 a2 ka2 g2 W2 E2 A2
  have V2 : CArr Z h2 a2 ka2 [0] := CArr.of_new A2 (k := 1) rfl rfl
  have X2 : Ext h0 h2 := ext_trans E1 E2
  have N2 := N1.ext E2
  have Aq1 := A.ext E1
  have Aq2 := Aq1.ext E2
  refine Go.dup W2.cx d_method_3_27 rfl ?_
  refine Go.iconst W2.cx d_method_3_28 (z := (0 : Int32)) rfl ?_
  refine Go.aload_n W2.cx d_method_3_29 (v := (.ref a)) rfl rfl ?_
  refine Go.iconst W2.cx d_method_3_30 (z := (0 : Int32)) rfl ?_
  refine Go.caload W2 0 d_method_3_31 Aq2 rfl (by omega) (by omega) (v := (cs.getD 0 0)) rfl ?_
  refine Go.castore W2 0 d_method_3_32 V2 (by simp) rfl (Nat.le_of_ble_eq_true rfl) (Nat.le_of_ble_eq_true rfl) (x' := (cs.getD 0 0)) (nar_ch (getD_ch hp (i := 0) (by omega))) ?_
  intro T3 h3 W3 K3 V3
  have V3 : CArr Z h3 a2 ka2 [(cs.getD 0 0)] := V3
  have N3 := N2.keep K3 (nin1 N1.1.lt g2)
  have X3 : Ext h0 h3 := ext_keep X2 K3 (all1 (by rw [g2]; exact E1.1))
  have Aq3 := Aq2.keep K3 (nin1 Aq1.lt g2)
  have hp4 : ∀ c ∈ [(cs.getD 0 0)], ¬ c < 0 ∧ ¬ (255 : Int32) < c := all_cons (getD_ch hp (i := 0) (by omega)) (all_nil)
  refine Go.invi W3 (newStr (wt := 1) W3.ew hw hG N3 V3 (W3.mine (by simp)) (by simp) hp4 (Nat.le_of_ble_eq_true rfl) (Nat.le_of_ble_eq_true rfl) (by decide) (by decide)) d_method_3_33 rfl (wd hw 53 rfl) (wd hw 54 rfl) (wd hw 55 rfl) (by decide) pd_3 rfl rfl (rest := [(.ref a1)]) rfl (Nat.le_of_eq rfl) (cells' := 3) (slots' := 6) rfl rfl (by decide) (by decide) ?_
  rintro T5 h5 W5 z5 ⟨K5, S5⟩
  have X5 : Ext h0 h5 := ext_keep X3 K5 (all1 (Nat.le_of_eq g1.symm))
  exact Go.aret W5 d_method_3_36 rfl rfl rfl (by decide) (by decide) ⟨_, rfl, a1, rfl, X5, by rw [tk1 hn2]; exact S5⟩
theorem d_method_3_37 : Dec method_3_code 37 (.iload_n 1) 1 38 := ⟨by decide +kernel, rfl⟩
theorem d_method_3_38 : Dec method_3_code 38 (.iconst 2) 1 39 := ⟨by decide +kernel, rfl⟩
theorem d_method_3_39 : Dec method_3_code 39 (.if_icmp .ne 26) 3 42 := ⟨by decide +kernel, rfl⟩
theorem d_method_3_42 : Dec method_3_code 42 (.new 8) 3 45 := ⟨by decide +kernel, rfl⟩
theorem d_method_3_45 : Dec method_3_code 45 (.dup) 1 46 := ⟨by decide +kernel, rfl⟩
theorem d_method_3_46 : Dec method_3_code 46 (.iconst 2) 1 47 := ⟨by decide +kernel, rfl⟩
theorem d_method_3_47 : Dec method_3_code 47 (.newarray .char) 2 49 := ⟨by decide +kernel, rfl⟩
theorem d_method_3_49 : Dec method_3_code 49 (.dup) 1 50 := ⟨by decide +kernel, rfl⟩
theorem d_method_3_50 : Dec method_3_code 50 (.iconst 0) 1 51 := ⟨by decide +kernel, rfl⟩
theorem d_method_3_51 : Dec method_3_code 51 (.aload_n 0) 1 52 := ⟨by decide +kernel, rfl⟩
theorem d_method_3_52 : Dec method_3_code 52 (.iconst 0) 1 53 := ⟨by decide +kernel, rfl⟩
theorem d_method_3_53 : Dec method_3_code 53 (.caload) 1 54 := ⟨by decide +kernel, rfl⟩
theorem d_method_3_54 : Dec method_3_code 54 (.castore) 1 55 := ⟨by decide +kernel, rfl⟩
theorem d_method_3_55 : Dec method_3_code 55 (.dup) 1 56 := ⟨by decide +kernel, rfl⟩
theorem d_method_3_56 : Dec method_3_code 56 (.iconst 1) 1 57 := ⟨by decide +kernel, rfl⟩
theorem d_method_3_57 : Dec method_3_code 57 (.aload_n 0) 1 58 := ⟨by decide +kernel, rfl⟩
theorem d_method_3_58 : Dec method_3_code 58 (.iconst 1) 1 59 := ⟨by decide +kernel, rfl⟩
theorem d_method_3_59 : Dec method_3_code 59 (.caload) 1 60 := ⟨by decide +kernel, rfl⟩
theorem d_method_3_60 : Dec method_3_code 60 (.castore) 1 61 := ⟨by decide +kernel, rfl⟩
theorem d_method_3_61 : Dec method_3_code 61 (.invokespecial 17) 3 64 := ⟨by decide +kernel, rfl⟩
theorem d_method_3_64 : Dec method_3_code 64 (.areturn) 1 65 := ⟨by decide +kernel, rfl⟩
set_option maxRecDepth 65536 in
set_option maxHeartbeats 40000000 in
theorem c_make2 (l : Launch) (Z : State) (a0 : Array Value) (hw : ∀ d ∈ tables_1, d.before a0 Z = true) (hE : EW Z a0 EL0) {n0 : Nat} {h0 : Heap} (hO : Old Z n0 h0) (hG : Gl Z) {a : Addr} {ka : ClassId} {cs : List Int32} (A : CArr Z h0 a ka cs) (hp : ∀ c ∈ cs, ¬ c < 0 ∧ ¬ (255 : Int32) < c) (hcl : cs.length ≤ 4000) (hn2 : 2 ≤ cs.length) :
    Ctr NW EL0 n0 Z [] l (⟨"com/example/serialis/serialis/marc/MarcFormatByLabelPinLaw", "make", "([CI)Ljava/lang/String;"⟩ : MethodName) method_3_code 2 (some (.object "java/lang/String")) ({ frames := 4, cells := 6, slots := 20, locals := 66 } : Room) #[.ref a, .int (Int32.ofNat 2)] h0 (RV fun w h => ∃ r, w = .ref r ∧ Ext h0 h ∧ Str Z h r (cs.take 2)) := by
  refine Ctr.body (plainFor_of_name pn_1) hE hO (fun x q => nomatch q) (L0 := #[.val (.ref a), .val (.int (Int32.ofNat 2))]) (fun m => by first | (simp [entryFrame, mkF, argsToLocals, Value.category, maxLocals]; done) | rfl) ?_
  intro p e s m below meth c T0 W0
  refine Go.iload_n W0.cx d_method_3_0 (v := (Int32.ofNat 2)) rfl ?_
  refine Go.ifne W0.cx d_method_3_1 (by decide) (q := 15) rfl (fun _ => ?_) (fun hh => (by first | exact absurd (by decide : ¬ Int32.ofNat 2 = 0) hh | exact absurd hh (by decide : ¬ Int32.ofNat 2 = 0)))
  refine Go.iload_n W0.cx d_method_3_15 (v := (Int32.ofNat 2)) rfl ?_
  refine Go.iconst W0.cx d_method_3_16 (z := (1 : Int32)) rfl ?_
  refine Go.icne W0.cx d_method_3_17 (by decide) (q := 37) rfl (fun _ => ?_) (fun hh => (by first | exact absurd (by decide : ¬ Int32.ofNat 2 = 1) hh | exact absurd hh (by decide : ¬ Int32.ofNat 2 = 1)))
  refine Go.iload_n W0.cx d_method_3_37 (v := (Int32.ofNat 2)) rfl ?_
  refine Go.iconst W0.cx d_method_3_38 (z := (2 : Int32)) rfl ?_
  refine Go.icne W0.cx d_method_3_39 (by decide) (q := 65) rfl (fun hh => (by first | exact absurd (by decide : Int32.ofNat 2 = 2) hh | exact absurd hh (by decide : Int32.ofNat 2 = 2))) (fun _ => ?_)
  refine Go.new W0 d_method_3_42 (wd hw 52 rfl) (wd hw 2 rfl) (wd hw 1 rfl) (cells' := 1) (slots' := 4) rfl rfl (by decide) (by decide) ?_
  intro T1 h1 a1 g1 W1 E1 A1 D1
  have N1 : NewS Z h1 a1 := ⟨A1, D1 (Or.inr (wd hw 4 rfl)) (t := .array .byte) (by decide), D1 (Or.inr (wd hw 5 rfl)) (t := .byte) (by decide)⟩
  refine Go.dup W1.cx d_method_3_45 rfl ?_
  refine Go.iconst W1.cx d_method_3_46 (z := (2 : Int32)) rfl ?_
  refine Go.newarr W1 d_method_3_47 (wd hw 21 rfl) (z := (2 : Int32)) (cap := 2) (by decide) (by decide) (by decide) (cells' := 2) (slots' := 6) rfl rfl (by decide) (by decide) ?_
  intro T2 h2 a2 ka2 g2 W2 E2 A2
  have V2 : CArr Z h2 a2 ka2 [0, 0] := CArr.of_new A2 (k := 2) rfl rfl
  have X2 : Ext h0 h2 := ext_trans E1 E2
  have N2 := N1.ext E2
  have Aq1 := A.ext E1
  have Aq2 := Aq1.ext E2
  refine Go.dup W2.cx d_method_3_49 rfl ?_
  refine Go.iconst W2.cx d_method_3_50 (z := (0 : Int32)) rfl ?_
  refine Go.aload_n W2.cx d_method_3_51 (v := (.ref a)) rfl rfl ?_
  refine Go.iconst W2.cx d_method_3_52 (z := (0 : Int32)) rfl ?_
  refine Go.caload W2 0 d_method_3_53 Aq2 rfl (by omega) (by omega) (v := (cs.getD 0 0)) rfl ?_
  refine Go.castore W2 0 d_method_3_54 V2 (by simp) rfl (Nat.le_of_ble_eq_true rfl) (Nat.le_of_ble_eq_true rfl) (x' := (cs.getD 0 0)) (nar_ch (getD_ch hp (i := 0) (by omega))) ?_
  intro T3 h3 W3 K3 V3
  have V3 : CArr Z h3 a2 ka2 [(cs.getD 0 0), 0] := V3
  have N3 := N2.keep K3 (nin1 N1.1.lt g2)
  have X3 : Ext h0 h3 := ext_keep X2 K3 (all1 (by rw [g2]; exact E1.1))
  have Aq3 := Aq2.keep K3 (nin1 Aq1.lt g2)
  refine Go.dup W3.cx d_method_3_55 rfl ?_
  refine Go.iconst W3.cx d_method_3_56 (z := (1 : Int32)) rfl ?_
  refine Go.aload_n W3.cx d_method_3_57 (v := (.ref a)) rfl rfl ?_
  refine Go.iconst W3.cx d_method_3_58 (z := (1 : Int32)) rfl ?_
  refine Go.caload W3 1 d_method_3_59 Aq3 rfl (by omega) (by omega) (v := (cs.getD 1 0)) rfl ?_
  refine Go.castore W3 1 d_method_3_60 V3 (by simp) rfl (Nat.le_of_ble_eq_true rfl) (Nat.le_of_ble_eq_true rfl) (x' := (cs.getD 1 0)) (nar_ch (getD_ch hp (i := 1) (by omega))) ?_
  intro T4 h4 W4 K4 V4
  have V4 : CArr Z h4 a2 ka2 [(cs.getD 0 0), (cs.getD 1 0)] := V4
  have N4 := N3.keep K4 (nin1 N1.1.lt g2)
  have X4 : Ext h0 h4 := ext_keep X3 K4 (all1 (by rw [g2]; exact E1.1))
  have Aq4 := Aq3.keep K4 (nin1 Aq1.lt g2)
  have hp5 : ∀ c ∈ [(cs.getD 0 0), (cs.getD 1 0)], ¬ c < 0 ∧ ¬ (255 : Int32) < c := all_cons (getD_ch hp (i := 0) (by omega)) (all_cons (getD_ch hp (i := 1) (by omega)) (all_nil))
  refine Go.invi W4 (newStr (wt := 1) W4.ew hw hG N4 V4 (W4.mine (by simp)) (by simp) hp5 (Nat.le_of_ble_eq_true rfl) (Nat.le_of_ble_eq_true rfl) (by decide) (by decide)) d_method_3_61 rfl (wd hw 53 rfl) (wd hw 54 rfl) (wd hw 55 rfl) (by decide) pd_3 rfl rfl (rest := [(.ref a1)]) rfl (Nat.le_of_eq rfl) (cells' := 3) (slots' := 8) rfl rfl (by decide) (by decide) ?_
  rintro T6 h6 W6 z6 ⟨K6, S6⟩
  have X6 : Ext h0 h6 := ext_keep X4 K6 (all1 (Nat.le_of_eq g1.symm))
  exact Go.aret W6 d_method_3_64 rfl rfl rfl (by decide) (by decide) ⟨_, rfl, a1, rfl, X6, by rw [tk2 hn2]; exact S6⟩
theorem d_method_3_65 : Dec method_3_code 65 (.iload_n 1) 1 66 := ⟨by decide +kernel, rfl⟩
theorem d_method_3_66 : Dec method_3_code 66 (.iconst 3) 1 67 := ⟨by decide +kernel, rfl⟩
theorem d_method_3_67 : Dec method_3_code 67 (.if_icmp .ne 32) 3 70 := ⟨by decide +kernel, rfl⟩
theorem d_method_3_70 : Dec method_3_code 70 (.new 8) 3 73 := ⟨by decide +kernel, rfl⟩
theorem d_method_3_73 : Dec method_3_code 73 (.dup) 1 74 := ⟨by decide +kernel, rfl⟩
theorem d_method_3_74 : Dec method_3_code 74 (.iconst 3) 1 75 := ⟨by decide +kernel, rfl⟩
theorem d_method_3_75 : Dec method_3_code 75 (.newarray .char) 2 77 := ⟨by decide +kernel, rfl⟩
theorem d_method_3_77 : Dec method_3_code 77 (.dup) 1 78 := ⟨by decide +kernel, rfl⟩
theorem d_method_3_78 : Dec method_3_code 78 (.iconst 0) 1 79 := ⟨by decide +kernel, rfl⟩
theorem d_method_3_79 : Dec method_3_code 79 (.aload_n 0) 1 80 := ⟨by decide +kernel, rfl⟩
theorem d_method_3_80 : Dec method_3_code 80 (.iconst 0) 1 81 := ⟨by decide +kernel, rfl⟩
theorem d_method_3_81 : Dec method_3_code 81 (.caload) 1 82 := ⟨by decide +kernel, rfl⟩
theorem d_method_3_82 : Dec method_3_code 82 (.castore) 1 83 := ⟨by decide +kernel, rfl⟩
theorem d_method_3_83 : Dec method_3_code 83 (.dup) 1 84 := ⟨by decide +kernel, rfl⟩
theorem d_method_3_84 : Dec method_3_code 84 (.iconst 1) 1 85 := ⟨by decide +kernel, rfl⟩
theorem d_method_3_85 : Dec method_3_code 85 (.aload_n 0) 1 86 := ⟨by decide +kernel, rfl⟩
theorem d_method_3_86 : Dec method_3_code 86 (.iconst 1) 1 87 := ⟨by decide +kernel, rfl⟩
theorem d_method_3_87 : Dec method_3_code 87 (.caload) 1 88 := ⟨by decide +kernel, rfl⟩
theorem d_method_3_88 : Dec method_3_code 88 (.castore) 1 89 := ⟨by decide +kernel, rfl⟩
theorem d_method_3_89 : Dec method_3_code 89 (.dup) 1 90 := ⟨by decide +kernel, rfl⟩
theorem d_method_3_90 : Dec method_3_code 90 (.iconst 2) 1 91 := ⟨by decide +kernel, rfl⟩
theorem d_method_3_91 : Dec method_3_code 91 (.aload_n 0) 1 92 := ⟨by decide +kernel, rfl⟩
theorem d_method_3_92 : Dec method_3_code 92 (.iconst 2) 1 93 := ⟨by decide +kernel, rfl⟩
theorem d_method_3_93 : Dec method_3_code 93 (.caload) 1 94 := ⟨by decide +kernel, rfl⟩
theorem d_method_3_94 : Dec method_3_code 94 (.castore) 1 95 := ⟨by decide +kernel, rfl⟩
theorem d_method_3_95 : Dec method_3_code 95 (.invokespecial 17) 3 98 := ⟨by decide +kernel, rfl⟩
theorem d_method_3_98 : Dec method_3_code 98 (.areturn) 1 99 := ⟨by decide +kernel, rfl⟩
set_option maxRecDepth 65536 in
set_option maxHeartbeats 40000000 in
theorem c_make3 (l : Launch) (Z : State) (a0 : Array Value) (hw : ∀ d ∈ tables_1, d.before a0 Z = true) (hE : EW Z a0 EL0) {n0 : Nat} {h0 : Heap} (hO : Old Z n0 h0) (hG : Gl Z) {a : Addr} {ka : ClassId} {cs : List Int32} (A : CArr Z h0 a ka cs) (hp : ∀ c ∈ cs, ¬ c < 0 ∧ ¬ (255 : Int32) < c) (hcl : cs.length ≤ 4000) (hn2 : 3 ≤ cs.length) :
    Ctr NW EL0 n0 Z [] l (⟨"com/example/serialis/serialis/marc/MarcFormatByLabelPinLaw", "make", "([CI)Ljava/lang/String;"⟩ : MethodName) method_3_code 2 (some (.object "java/lang/String")) ({ frames := 4, cells := 6, slots := 20, locals := 66 } : Room) #[.ref a, .int (Int32.ofNat 3)] h0 (RV fun w h => ∃ r, w = .ref r ∧ Ext h0 h ∧ Str Z h r (cs.take 3)) := by
  refine Ctr.body (plainFor_of_name pn_1) hE hO (fun x q => nomatch q) (L0 := #[.val (.ref a), .val (.int (Int32.ofNat 3))]) (fun m => by first | (simp [entryFrame, mkF, argsToLocals, Value.category, maxLocals]; done) | rfl) ?_
  intro p e s m below meth c T0 W0
  refine Go.iload_n W0.cx d_method_3_0 (v := (Int32.ofNat 3)) rfl ?_
  refine Go.ifne W0.cx d_method_3_1 (by decide) (q := 15) rfl (fun _ => ?_) (fun hh => (by first | exact absurd (by decide : ¬ Int32.ofNat 3 = 0) hh | exact absurd hh (by decide : ¬ Int32.ofNat 3 = 0)))
  refine Go.iload_n W0.cx d_method_3_15 (v := (Int32.ofNat 3)) rfl ?_
  refine Go.iconst W0.cx d_method_3_16 (z := (1 : Int32)) rfl ?_
  refine Go.icne W0.cx d_method_3_17 (by decide) (q := 37) rfl (fun _ => ?_) (fun hh => (by first | exact absurd (by decide : ¬ Int32.ofNat 3 = 1) hh | exact absurd hh (by decide : ¬ Int32.ofNat 3 = 1)))
  refine Go.iload_n W0.cx d_method_3_37 (v := (Int32.ofNat 3)) rfl ?_
  refine Go.iconst W0.cx d_method_3_38 (z := (2 : Int32)) rfl ?_
  refine Go.icne W0.cx d_method_3_39 (by decide) (q := 65) rfl (fun _ => ?_) (fun hh => (by first | exact absurd (by decide : ¬ Int32.ofNat 3 = 2) hh | exact absurd hh (by decide : ¬ Int32.ofNat 3 = 2)))
  refine Go.iload_n W0.cx d_method_3_65 (v := (Int32.ofNat 3)) rfl ?_
  refine Go.iconst W0.cx d_method_3_66 (z := (3 : Int32)) rfl ?_
  refine Go.icne W0.cx d_method_3_67 (by decide) (q := 99) rfl (fun hh => (by first | exact absurd (by decide : Int32.ofNat 3 = 3) hh | exact absurd hh (by decide : Int32.ofNat 3 = 3))) (fun _ => ?_)
  refine Go.new W0 d_method_3_70 (wd hw 52 rfl) (wd hw 2 rfl) (wd hw 1 rfl) (cells' := 1) (slots' := 4) rfl rfl (by decide) (by decide) ?_
  intro T1 h1 a1 g1 W1 E1 A1 D1
  have N1 : NewS Z h1 a1 := ⟨A1, D1 (Or.inr (wd hw 4 rfl)) (t := .array .byte) (by decide), D1 (Or.inr (wd hw 5 rfl)) (t := .byte) (by decide)⟩
  refine Go.dup W1.cx d_method_3_73 rfl ?_
  refine Go.iconst W1.cx d_method_3_74 (z := (3 : Int32)) rfl ?_
  refine Go.newarr W1 d_method_3_75 (wd hw 21 rfl) (z := (3 : Int32)) (cap := 3) (by decide) (by decide) (by decide) (cells' := 2) (slots' := 7) rfl rfl (by decide) (by decide) ?_
  intro T2 h2 a2 ka2 g2 W2 E2 A2
  have V2 : CArr Z h2 a2 ka2 [0, 0, 0] := CArr.of_new A2 (k := 3) rfl rfl
  have X2 : Ext h0 h2 := ext_trans E1 E2
  have N2 := N1.ext E2
  have Aq1 := A.ext E1
  have Aq2 := Aq1.ext E2
  refine Go.dup W2.cx d_method_3_77 rfl ?_
  refine Go.iconst W2.cx d_method_3_78 (z := (0 : Int32)) rfl ?_
  refine Go.aload_n W2.cx d_method_3_79 (v := (.ref a)) rfl rfl ?_
  refine Go.iconst W2.cx d_method_3_80 (z := (0 : Int32)) rfl ?_
  refine Go.caload W2 0 d_method_3_81 Aq2 rfl (by omega) (by omega) (v := (cs.getD 0 0)) rfl ?_
  refine Go.castore W2 0 d_method_3_82 V2 (by simp) rfl (Nat.le_of_ble_eq_true rfl) (Nat.le_of_ble_eq_true rfl) (x' := (cs.getD 0 0)) (nar_ch (getD_ch hp (i := 0) (by omega))) ?_
  intro T3 h3 W3 K3 V3
  have V3 : CArr Z h3 a2 ka2 [(cs.getD 0 0), 0, 0] := V3
  have N3 := N2.keep K3 (nin1 N1.1.lt g2)
  have X3 : Ext h0 h3 := ext_keep X2 K3 (all1 (by rw [g2]; exact E1.1))
  have Aq3 := Aq2.keep K3 (nin1 Aq1.lt g2)
  refine Go.dup W3.cx d_method_3_83 rfl ?_
  refine Go.iconst W3.cx d_method_3_84 (z := (1 : Int32)) rfl ?_
  refine Go.aload_n W3.cx d_method_3_85 (v := (.ref a)) rfl rfl ?_
  refine Go.iconst W3.cx d_method_3_86 (z := (1 : Int32)) rfl ?_
  refine Go.caload W3 1 d_method_3_87 Aq3 rfl (by omega) (by omega) (v := (cs.getD 1 0)) rfl ?_
  refine Go.castore W3 1 d_method_3_88 V3 (by simp) rfl (Nat.le_of_ble_eq_true rfl) (Nat.le_of_ble_eq_true rfl) (x' := (cs.getD 1 0)) (nar_ch (getD_ch hp (i := 1) (by omega))) ?_
  intro T4 h4 W4 K4 V4
  have V4 : CArr Z h4 a2 ka2 [(cs.getD 0 0), (cs.getD 1 0), 0] := V4
  have N4 := N3.keep K4 (nin1 N1.1.lt g2)
  have X4 : Ext h0 h4 := ext_keep X3 K4 (all1 (by rw [g2]; exact E1.1))
  have Aq4 := Aq3.keep K4 (nin1 Aq1.lt g2)
  refine Go.dup W4.cx d_method_3_89 rfl ?_
  refine Go.iconst W4.cx d_method_3_90 (z := (2 : Int32)) rfl ?_
  refine Go.aload_n W4.cx d_method_3_91 (v := (.ref a)) rfl rfl ?_
  refine Go.iconst W4.cx d_method_3_92 (z := (2 : Int32)) rfl ?_
  refine Go.caload W4 2 d_method_3_93 Aq4 rfl (by omega) (by omega) (v := (cs.getD 2 0)) rfl ?_
  refine Go.castore W4 2 d_method_3_94 V4 (by simp) rfl (Nat.le_of_ble_eq_true rfl) (Nat.le_of_ble_eq_true rfl) (x' := (cs.getD 2 0)) (nar_ch (getD_ch hp (i := 2) (by omega))) ?_
  intro T5 h5 W5 K5 V5
  have V5 : CArr Z h5 a2 ka2 [(cs.getD 0 0), (cs.getD 1 0), (cs.getD 2 0)] := V5
  have N5 := N4.keep K5 (nin1 N1.1.lt g2)
  have X5 : Ext h0 h5 := ext_keep X4 K5 (all1 (by rw [g2]; exact E1.1))
  have Aq5 := Aq4.keep K5 (nin1 Aq1.lt g2)
  have hp6 : ∀ c ∈ [(cs.getD 0 0), (cs.getD 1 0), (cs.getD 2 0)], ¬ c < 0 ∧ ¬ (255 : Int32) < c := all_cons (getD_ch hp (i := 0) (by omega)) (all_cons (getD_ch hp (i := 1) (by omega)) (all_cons (getD_ch hp (i := 2) (by omega)) (all_nil)))
  refine Go.invi W5 (newStr (wt := 1) W5.ew hw hG N5 V5 (W5.mine (by simp)) (by simp) hp6 (Nat.le_of_ble_eq_true rfl) (Nat.le_of_ble_eq_true rfl) (by decide) (by decide)) d_method_3_95 rfl (wd hw 53 rfl) (wd hw 54 rfl) (wd hw 55 rfl) (by decide) pd_3 rfl rfl (rest := [(.ref a1)]) rfl (Nat.le_of_eq rfl) (cells' := 3) (slots' := 10) rfl rfl (by decide) (by decide) ?_
  rintro T7 h7 W7 z7 ⟨K7, S7⟩
  have X7 : Ext h0 h7 := ext_keep X5 K7 (all1 (Nat.le_of_eq g1.symm))
  exact Go.aret W7 d_method_3_98 rfl rfl rfl (by decide) (by decide) ⟨_, rfl, a1, rfl, X7, by rw [tk3 hn2]; exact S7⟩
theorem d_method_3_99 : Dec method_3_code 99 (.iload_n 1) 1 100 := ⟨by decide +kernel, rfl⟩
theorem d_method_3_100 : Dec method_3_code 100 (.iconst 4) 1 101 := ⟨by decide +kernel, rfl⟩
theorem d_method_3_101 : Dec method_3_code 101 (.if_icmp .ne 38) 3 104 := ⟨by decide +kernel, rfl⟩
theorem d_method_3_104 : Dec method_3_code 104 (.new 8) 3 107 := ⟨by decide +kernel, rfl⟩
theorem d_method_3_107 : Dec method_3_code 107 (.dup) 1 108 := ⟨by decide +kernel, rfl⟩
theorem d_method_3_108 : Dec method_3_code 108 (.iconst 4) 1 109 := ⟨by decide +kernel, rfl⟩
theorem d_method_3_109 : Dec method_3_code 109 (.newarray .char) 2 111 := ⟨by decide +kernel, rfl⟩
theorem d_method_3_111 : Dec method_3_code 111 (.dup) 1 112 := ⟨by decide +kernel, rfl⟩
theorem d_method_3_112 : Dec method_3_code 112 (.iconst 0) 1 113 := ⟨by decide +kernel, rfl⟩
theorem d_method_3_113 : Dec method_3_code 113 (.aload_n 0) 1 114 := ⟨by decide +kernel, rfl⟩
theorem d_method_3_114 : Dec method_3_code 114 (.iconst 0) 1 115 := ⟨by decide +kernel, rfl⟩
theorem d_method_3_115 : Dec method_3_code 115 (.caload) 1 116 := ⟨by decide +kernel, rfl⟩
theorem d_method_3_116 : Dec method_3_code 116 (.castore) 1 117 := ⟨by decide +kernel, rfl⟩
theorem d_method_3_117 : Dec method_3_code 117 (.dup) 1 118 := ⟨by decide +kernel, rfl⟩
theorem d_method_3_118 : Dec method_3_code 118 (.iconst 1) 1 119 := ⟨by decide +kernel, rfl⟩
theorem d_method_3_119 : Dec method_3_code 119 (.aload_n 0) 1 120 := ⟨by decide +kernel, rfl⟩
theorem d_method_3_120 : Dec method_3_code 120 (.iconst 1) 1 121 := ⟨by decide +kernel, rfl⟩
theorem d_method_3_121 : Dec method_3_code 121 (.caload) 1 122 := ⟨by decide +kernel, rfl⟩
theorem d_method_3_122 : Dec method_3_code 122 (.castore) 1 123 := ⟨by decide +kernel, rfl⟩
theorem d_method_3_123 : Dec method_3_code 123 (.dup) 1 124 := ⟨by decide +kernel, rfl⟩
theorem d_method_3_124 : Dec method_3_code 124 (.iconst 2) 1 125 := ⟨by decide +kernel, rfl⟩
theorem d_method_3_125 : Dec method_3_code 125 (.aload_n 0) 1 126 := ⟨by decide +kernel, rfl⟩
theorem d_method_3_126 : Dec method_3_code 126 (.iconst 2) 1 127 := ⟨by decide +kernel, rfl⟩
theorem d_method_3_127 : Dec method_3_code 127 (.caload) 1 128 := ⟨by decide +kernel, rfl⟩
theorem d_method_3_128 : Dec method_3_code 128 (.castore) 1 129 := ⟨by decide +kernel, rfl⟩
theorem d_method_3_129 : Dec method_3_code 129 (.dup) 1 130 := ⟨by decide +kernel, rfl⟩
theorem d_method_3_130 : Dec method_3_code 130 (.iconst 3) 1 131 := ⟨by decide +kernel, rfl⟩
theorem d_method_3_131 : Dec method_3_code 131 (.aload_n 0) 1 132 := ⟨by decide +kernel, rfl⟩
theorem d_method_3_132 : Dec method_3_code 132 (.iconst 3) 1 133 := ⟨by decide +kernel, rfl⟩
theorem d_method_3_133 : Dec method_3_code 133 (.caload) 1 134 := ⟨by decide +kernel, rfl⟩
theorem d_method_3_134 : Dec method_3_code 134 (.castore) 1 135 := ⟨by decide +kernel, rfl⟩
theorem d_method_3_135 : Dec method_3_code 135 (.invokespecial 17) 3 138 := ⟨by decide +kernel, rfl⟩
theorem d_method_3_138 : Dec method_3_code 138 (.areturn) 1 139 := ⟨by decide +kernel, rfl⟩
set_option maxRecDepth 65536 in
set_option maxHeartbeats 40000000 in
theorem c_make4 (l : Launch) (Z : State) (a0 : Array Value) (hw : ∀ d ∈ tables_1, d.before a0 Z = true) (hE : EW Z a0 EL0) {n0 : Nat} {h0 : Heap} (hO : Old Z n0 h0) (hG : Gl Z) {a : Addr} {ka : ClassId} {cs : List Int32} (A : CArr Z h0 a ka cs) (hp : ∀ c ∈ cs, ¬ c < 0 ∧ ¬ (255 : Int32) < c) (hcl : cs.length ≤ 4000) (hn2 : 4 ≤ cs.length) :
    Ctr NW EL0 n0 Z [] l (⟨"com/example/serialis/serialis/marc/MarcFormatByLabelPinLaw", "make", "([CI)Ljava/lang/String;"⟩ : MethodName) method_3_code 2 (some (.object "java/lang/String")) ({ frames := 4, cells := 6, slots := 20, locals := 66 } : Room) #[.ref a, .int (Int32.ofNat 4)] h0 (RV fun w h => ∃ r, w = .ref r ∧ Ext h0 h ∧ Str Z h r (cs.take 4)) := by
  refine Ctr.body (plainFor_of_name pn_1) hE hO (fun x q => nomatch q) (L0 := #[.val (.ref a), .val (.int (Int32.ofNat 4))]) (fun m => by first | (simp [entryFrame, mkF, argsToLocals, Value.category, maxLocals]; done) | rfl) ?_
  intro p e s m below meth c T0 W0
  refine Go.iload_n W0.cx d_method_3_0 (v := (Int32.ofNat 4)) rfl ?_
  refine Go.ifne W0.cx d_method_3_1 (by decide) (q := 15) rfl (fun _ => ?_) (fun hh => (by first | exact absurd (by decide : ¬ Int32.ofNat 4 = 0) hh | exact absurd hh (by decide : ¬ Int32.ofNat 4 = 0)))
  refine Go.iload_n W0.cx d_method_3_15 (v := (Int32.ofNat 4)) rfl ?_
  refine Go.iconst W0.cx d_method_3_16 (z := (1 : Int32)) rfl ?_
  refine Go.icne W0.cx d_method_3_17 (by decide) (q := 37) rfl (fun _ => ?_) (fun hh => (by first | exact absurd (by decide : ¬ Int32.ofNat 4 = 1) hh | exact absurd hh (by decide : ¬ Int32.ofNat 4 = 1)))
  refine Go.iload_n W0.cx d_method_3_37 (v := (Int32.ofNat 4)) rfl ?_
  refine Go.iconst W0.cx d_method_3_38 (z := (2 : Int32)) rfl ?_
  refine Go.icne W0.cx d_method_3_39 (by decide) (q := 65) rfl (fun _ => ?_) (fun hh => (by first | exact absurd (by decide : ¬ Int32.ofNat 4 = 2) hh | exact absurd hh (by decide : ¬ Int32.ofNat 4 = 2)))
  refine Go.iload_n W0.cx d_method_3_65 (v := (Int32.ofNat 4)) rfl ?_
  refine Go.iconst W0.cx d_method_3_66 (z := (3 : Int32)) rfl ?_
  refine Go.icne W0.cx d_method_3_67 (by decide) (q := 99) rfl (fun _ => ?_) (fun hh => (by first | exact absurd (by decide : ¬ Int32.ofNat 4 = 3) hh | exact absurd hh (by decide : ¬ Int32.ofNat 4 = 3)))
  refine Go.iload_n W0.cx d_method_3_99 (v := (Int32.ofNat 4)) rfl ?_
  refine Go.iconst W0.cx d_method_3_100 (z := (4 : Int32)) rfl ?_
  refine Go.icne W0.cx d_method_3_101 (by decide) (q := 139) rfl (fun hh => (by first | exact absurd (by decide : Int32.ofNat 4 = 4) hh | exact absurd hh (by decide : Int32.ofNat 4 = 4))) (fun _ => ?_)
  refine Go.new W0 d_method_3_104 (wd hw 52 rfl) (wd hw 2 rfl) (wd hw 1 rfl) (cells' := 1) (slots' := 4) rfl rfl (by decide) (by decide) ?_
  intro T1 h1 a1 g1 W1 E1 A1 D1
  have N1 : NewS Z h1 a1 := ⟨A1, D1 (Or.inr (wd hw 4 rfl)) (t := .array .byte) (by decide), D1 (Or.inr (wd hw 5 rfl)) (t := .byte) (by decide)⟩
  refine Go.dup W1.cx d_method_3_107 rfl ?_
  refine Go.iconst W1.cx d_method_3_108 (z := (4 : Int32)) rfl ?_
  refine Go.newarr W1 d_method_3_109 (wd hw 21 rfl) (z := (4 : Int32)) (cap := 4) (by decide) (by decide) (by decide) (cells' := 2) (slots' := 8) rfl rfl (by decide) (by decide) ?_
  intro T2 h2 a2 ka2 g2 W2 E2 A2
  have V2 : CArr Z h2 a2 ka2 [0, 0, 0, 0] := CArr.of_new A2 (k := 4) rfl rfl
  have X2 : Ext h0 h2 := ext_trans E1 E2
  have N2 := N1.ext E2
  have Aq1 := A.ext E1
  have Aq2 := Aq1.ext E2
  refine Go.dup W2.cx d_method_3_111 rfl ?_
  refine Go.iconst W2.cx d_method_3_112 (z := (0 : Int32)) rfl ?_
  refine Go.aload_n W2.cx d_method_3_113 (v := (.ref a)) rfl rfl ?_
  refine Go.iconst W2.cx d_method_3_114 (z := (0 : Int32)) rfl ?_
  refine Go.caload W2 0 d_method_3_115 Aq2 rfl (by omega) (by omega) (v := (cs.getD 0 0)) rfl ?_
  refine Go.castore W2 0 d_method_3_116 V2 (by simp) rfl (Nat.le_of_ble_eq_true rfl) (Nat.le_of_ble_eq_true rfl) (x' := (cs.getD 0 0)) (nar_ch (getD_ch hp (i := 0) (by omega))) ?_
  intro T3 h3 W3 K3 V3
  have V3 : CArr Z h3 a2 ka2 [(cs.getD 0 0), 0, 0, 0] := V3
  have N3 := N2.keep K3 (nin1 N1.1.lt g2)
  have X3 : Ext h0 h3 := ext_keep X2 K3 (all1 (by rw [g2]; exact E1.1))
  have Aq3 := Aq2.keep K3 (nin1 Aq1.lt g2)
  refine Go.dup W3.cx d_method_3_117 rfl ?_
  refine Go.iconst W3.cx d_method_3_118 (z := (1 : Int32)) rfl ?_
  refine Go.aload_n W3.cx d_method_3_119 (v := (.ref a)) rfl rfl ?_
  refine Go.iconst W3.cx d_method_3_120 (z := (1 : Int32)) rfl ?_
  refine Go.caload W3 1 d_method_3_121 Aq3 rfl (by omega) (by omega) (v := (cs.getD 1 0)) rfl ?_
  refine Go.castore W3 1 d_method_3_122 V3 (by simp) rfl (Nat.le_of_ble_eq_true rfl) (Nat.le_of_ble_eq_true rfl) (x' := (cs.getD 1 0)) (nar_ch (getD_ch hp (i := 1) (by omega))) ?_
  intro T4 h4 W4 K4 V4
  have V4 : CArr Z h4 a2 ka2 [(cs.getD 0 0), (cs.getD 1 0), 0, 0] := V4
  have N4 := N3.keep K4 (nin1 N1.1.lt g2)
  have X4 : Ext h0 h4 := ext_keep X3 K4 (all1 (by rw [g2]; exact E1.1))
  have Aq4 := Aq3.keep K4 (nin1 Aq1.lt g2)
  refine Go.dup W4.cx d_method_3_123 rfl ?_
  refine Go.iconst W4.cx d_method_3_124 (z := (2 : Int32)) rfl ?_
  refine Go.aload_n W4.cx d_method_3_125 (v := (.ref a)) rfl rfl ?_
  refine Go.iconst W4.cx d_method_3_126 (z := (2 : Int32)) rfl ?_
  refine Go.caload W4 2 d_method_3_127 Aq4 rfl (by omega) (by omega) (v := (cs.getD 2 0)) rfl ?_
  refine Go.castore W4 2 d_method_3_128 V4 (by simp) rfl (Nat.le_of_ble_eq_true rfl) (Nat.le_of_ble_eq_true rfl) (x' := (cs.getD 2 0)) (nar_ch (getD_ch hp (i := 2) (by omega))) ?_
  intro T5 h5 W5 K5 V5
  have V5 : CArr Z h5 a2 ka2 [(cs.getD 0 0), (cs.getD 1 0), (cs.getD 2 0), 0] := V5
  have N5 := N4.keep K5 (nin1 N1.1.lt g2)
  have X5 : Ext h0 h5 := ext_keep X4 K5 (all1 (by rw [g2]; exact E1.1))
  have Aq5 := Aq4.keep K5 (nin1 Aq1.lt g2)
  refine Go.dup W5.cx d_method_3_129 rfl ?_
  refine Go.iconst W5.cx d_method_3_130 (z := (3 : Int32)) rfl ?_
  refine Go.aload_n W5.cx d_method_3_131 (v := (.ref a)) rfl rfl ?_
  refine Go.iconst W5.cx d_method_3_132 (z := (3 : Int32)) rfl ?_
  refine Go.caload W5 3 d_method_3_133 Aq5 rfl (by omega) (by omega) (v := (cs.getD 3 0)) rfl ?_
  refine Go.castore W5 3 d_method_3_134 V5 (by simp) rfl (Nat.le_of_ble_eq_true rfl) (Nat.le_of_ble_eq_true rfl) (x' := (cs.getD 3 0)) (nar_ch (getD_ch hp (i := 3) (by omega))) ?_
  intro T6 h6 W6 K6 V6
  have V6 : CArr Z h6 a2 ka2 [(cs.getD 0 0), (cs.getD 1 0), (cs.getD 2 0), (cs.getD 3 0)] := V6
  have N6 := N5.keep K6 (nin1 N1.1.lt g2)
  have X6 : Ext h0 h6 := ext_keep X5 K6 (all1 (by rw [g2]; exact E1.1))
  have Aq6 := Aq5.keep K6 (nin1 Aq1.lt g2)
  have hp7 : ∀ c ∈ [(cs.getD 0 0), (cs.getD 1 0), (cs.getD 2 0), (cs.getD 3 0)], ¬ c < 0 ∧ ¬ (255 : Int32) < c := all_cons (getD_ch hp (i := 0) (by omega)) (all_cons (getD_ch hp (i := 1) (by omega)) (all_cons (getD_ch hp (i := 2) (by omega)) (all_cons (getD_ch hp (i := 3) (by omega)) (all_nil))))
  refine Go.invi W6 (newStr (wt := 1) W6.ew hw hG N6 V6 (W6.mine (by simp)) (by simp) hp7 (Nat.le_of_ble_eq_true rfl) (Nat.le_of_ble_eq_true rfl) (by decide) (by decide)) d_method_3_135 rfl (wd hw 53 rfl) (wd hw 54 rfl) (wd hw 55 rfl) (by decide) pd_3 rfl rfl (rest := [(.ref a1)]) rfl (Nat.le_of_eq rfl) (cells' := 3) (slots' := 12) rfl rfl (by decide) (by decide) ?_
  rintro T8 h8 W8 z8 ⟨K8, S8⟩
  have X8 : Ext h0 h8 := ext_keep X6 K8 (all1 (Nat.le_of_eq g1.symm))
  exact Go.aret W8 d_method_3_138 rfl rfl rfl (by decide) (by decide) ⟨_, rfl, a1, rfl, X8, by rw [tk4 hn2]; exact S8⟩
theorem d_method_3_139 : Dec method_3_code 139 (.iload_n 1) 1 140 := ⟨by decide +kernel, rfl⟩
theorem d_method_3_140 : Dec method_3_code 140 (.iconst 5) 1 141 := ⟨by decide +kernel, rfl⟩
theorem d_method_3_141 : Dec method_3_code 141 (.if_icmp .ne 44) 3 144 := ⟨by decide +kernel, rfl⟩
theorem d_method_3_144 : Dec method_3_code 144 (.new 8) 3 147 := ⟨by decide +kernel, rfl⟩
theorem d_method_3_147 : Dec method_3_code 147 (.dup) 1 148 := ⟨by decide +kernel, rfl⟩
theorem d_method_3_148 : Dec method_3_code 148 (.iconst 5) 1 149 := ⟨by decide +kernel, rfl⟩
theorem d_method_3_149 : Dec method_3_code 149 (.newarray .char) 2 151 := ⟨by decide +kernel, rfl⟩
theorem d_method_3_151 : Dec method_3_code 151 (.dup) 1 152 := ⟨by decide +kernel, rfl⟩
theorem d_method_3_152 : Dec method_3_code 152 (.iconst 0) 1 153 := ⟨by decide +kernel, rfl⟩
theorem d_method_3_153 : Dec method_3_code 153 (.aload_n 0) 1 154 := ⟨by decide +kernel, rfl⟩
theorem d_method_3_154 : Dec method_3_code 154 (.iconst 0) 1 155 := ⟨by decide +kernel, rfl⟩
theorem d_method_3_155 : Dec method_3_code 155 (.caload) 1 156 := ⟨by decide +kernel, rfl⟩
theorem d_method_3_156 : Dec method_3_code 156 (.castore) 1 157 := ⟨by decide +kernel, rfl⟩
theorem d_method_3_157 : Dec method_3_code 157 (.dup) 1 158 := ⟨by decide +kernel, rfl⟩
theorem d_method_3_158 : Dec method_3_code 158 (.iconst 1) 1 159 := ⟨by decide +kernel, rfl⟩
theorem d_method_3_159 : Dec method_3_code 159 (.aload_n 0) 1 160 := ⟨by decide +kernel, rfl⟩
theorem d_method_3_160 : Dec method_3_code 160 (.iconst 1) 1 161 := ⟨by decide +kernel, rfl⟩
theorem d_method_3_161 : Dec method_3_code 161 (.caload) 1 162 := ⟨by decide +kernel, rfl⟩
theorem d_method_3_162 : Dec method_3_code 162 (.castore) 1 163 := ⟨by decide +kernel, rfl⟩
theorem d_method_3_163 : Dec method_3_code 163 (.dup) 1 164 := ⟨by decide +kernel, rfl⟩
theorem d_method_3_164 : Dec method_3_code 164 (.iconst 2) 1 165 := ⟨by decide +kernel, rfl⟩
theorem d_method_3_165 : Dec method_3_code 165 (.aload_n 0) 1 166 := ⟨by decide +kernel, rfl⟩
theorem d_method_3_166 : Dec method_3_code 166 (.iconst 2) 1 167 := ⟨by decide +kernel, rfl⟩
theorem d_method_3_167 : Dec method_3_code 167 (.caload) 1 168 := ⟨by decide +kernel, rfl⟩
theorem d_method_3_168 : Dec method_3_code 168 (.castore) 1 169 := ⟨by decide +kernel, rfl⟩
theorem d_method_3_169 : Dec method_3_code 169 (.dup) 1 170 := ⟨by decide +kernel, rfl⟩
theorem d_method_3_170 : Dec method_3_code 170 (.iconst 3) 1 171 := ⟨by decide +kernel, rfl⟩
theorem d_method_3_171 : Dec method_3_code 171 (.aload_n 0) 1 172 := ⟨by decide +kernel, rfl⟩
theorem d_method_3_172 : Dec method_3_code 172 (.iconst 3) 1 173 := ⟨by decide +kernel, rfl⟩
theorem d_method_3_173 : Dec method_3_code 173 (.caload) 1 174 := ⟨by decide +kernel, rfl⟩
theorem d_method_3_174 : Dec method_3_code 174 (.castore) 1 175 := ⟨by decide +kernel, rfl⟩
theorem d_method_3_175 : Dec method_3_code 175 (.dup) 1 176 := ⟨by decide +kernel, rfl⟩
theorem d_method_3_176 : Dec method_3_code 176 (.iconst 4) 1 177 := ⟨by decide +kernel, rfl⟩
theorem d_method_3_177 : Dec method_3_code 177 (.aload_n 0) 1 178 := ⟨by decide +kernel, rfl⟩
theorem d_method_3_178 : Dec method_3_code 178 (.iconst 4) 1 179 := ⟨by decide +kernel, rfl⟩
theorem d_method_3_179 : Dec method_3_code 179 (.caload) 1 180 := ⟨by decide +kernel, rfl⟩
theorem d_method_3_180 : Dec method_3_code 180 (.castore) 1 181 := ⟨by decide +kernel, rfl⟩
theorem d_method_3_181 : Dec method_3_code 181 (.invokespecial 17) 3 184 := ⟨by decide +kernel, rfl⟩
theorem d_method_3_184 : Dec method_3_code 184 (.areturn) 1 185 := ⟨by decide +kernel, rfl⟩
set_option maxRecDepth 65536 in
set_option maxHeartbeats 40000000 in
theorem c_make5 (l : Launch) (Z : State) (a0 : Array Value) (hw : ∀ d ∈ tables_1, d.before a0 Z = true) (hE : EW Z a0 EL0) {n0 : Nat} {h0 : Heap} (hO : Old Z n0 h0) (hG : Gl Z) {a : Addr} {ka : ClassId} {cs : List Int32} (A : CArr Z h0 a ka cs) (hp : ∀ c ∈ cs, ¬ c < 0 ∧ ¬ (255 : Int32) < c) (hcl : cs.length ≤ 4000) (hn2 : 5 ≤ cs.length) :
    Ctr NW EL0 n0 Z [] l (⟨"com/example/serialis/serialis/marc/MarcFormatByLabelPinLaw", "make", "([CI)Ljava/lang/String;"⟩ : MethodName) method_3_code 2 (some (.object "java/lang/String")) ({ frames := 4, cells := 6, slots := 20, locals := 66 } : Room) #[.ref a, .int (Int32.ofNat 5)] h0 (RV fun w h => ∃ r, w = .ref r ∧ Ext h0 h ∧ Str Z h r (cs.take 5)) := by
  refine Ctr.body (plainFor_of_name pn_1) hE hO (fun x q => nomatch q) (L0 := #[.val (.ref a), .val (.int (Int32.ofNat 5))]) (fun m => by first | (simp [entryFrame, mkF, argsToLocals, Value.category, maxLocals]; done) | rfl) ?_
  intro p e s m below meth c T0 W0
  refine Go.iload_n W0.cx d_method_3_0 (v := (Int32.ofNat 5)) rfl ?_
  refine Go.ifne W0.cx d_method_3_1 (by decide) (q := 15) rfl (fun _ => ?_) (fun hh => (by first | exact absurd (by decide : ¬ Int32.ofNat 5 = 0) hh | exact absurd hh (by decide : ¬ Int32.ofNat 5 = 0)))
  refine Go.iload_n W0.cx d_method_3_15 (v := (Int32.ofNat 5)) rfl ?_
  refine Go.iconst W0.cx d_method_3_16 (z := (1 : Int32)) rfl ?_
  refine Go.icne W0.cx d_method_3_17 (by decide) (q := 37) rfl (fun _ => ?_) (fun hh => (by first | exact absurd (by decide : ¬ Int32.ofNat 5 = 1) hh | exact absurd hh (by decide : ¬ Int32.ofNat 5 = 1)))
  refine Go.iload_n W0.cx d_method_3_37 (v := (Int32.ofNat 5)) rfl ?_
  refine Go.iconst W0.cx d_method_3_38 (z := (2 : Int32)) rfl ?_
  refine Go.icne W0.cx d_method_3_39 (by decide) (q := 65) rfl (fun _ => ?_) (fun hh => (by first | exact absurd (by decide : ¬ Int32.ofNat 5 = 2) hh | exact absurd hh (by decide : ¬ Int32.ofNat 5 = 2)))
  refine Go.iload_n W0.cx d_method_3_65 (v := (Int32.ofNat 5)) rfl ?_
  refine Go.iconst W0.cx d_method_3_66 (z := (3 : Int32)) rfl ?_
  refine Go.icne W0.cx d_method_3_67 (by decide) (q := 99) rfl (fun _ => ?_) (fun hh => (by first | exact absurd (by decide : ¬ Int32.ofNat 5 = 3) hh | exact absurd hh (by decide : ¬ Int32.ofNat 5 = 3)))
  refine Go.iload_n W0.cx d_method_3_99 (v := (Int32.ofNat 5)) rfl ?_
  refine Go.iconst W0.cx d_method_3_100 (z := (4 : Int32)) rfl ?_
  refine Go.icne W0.cx d_method_3_101 (by decide) (q := 139) rfl (fun _ => ?_) (fun hh => (by first | exact absurd (by decide : ¬ Int32.ofNat 5 = 4) hh | exact absurd hh (by decide : ¬ Int32.ofNat 5 = 4)))
  refine Go.iload_n W0.cx d_method_3_139 (v := (Int32.ofNat 5)) rfl ?_
  refine Go.iconst W0.cx d_method_3_140 (z := (5 : Int32)) rfl ?_
  refine Go.icne W0.cx d_method_3_141 (by decide) (q := 185) rfl (fun hh => (by first | exact absurd (by decide : Int32.ofNat 5 = 5) hh | exact absurd hh (by decide : Int32.ofNat 5 = 5))) (fun _ => ?_)
  refine Go.new W0 d_method_3_144 (wd hw 52 rfl) (wd hw 2 rfl) (wd hw 1 rfl) (cells' := 1) (slots' := 4) rfl rfl (by decide) (by decide) ?_
  intro T1 h1 a1 g1 W1 E1 A1 D1
  have N1 : NewS Z h1 a1 := ⟨A1, D1 (Or.inr (wd hw 4 rfl)) (t := .array .byte) (by decide), D1 (Or.inr (wd hw 5 rfl)) (t := .byte) (by decide)⟩
  refine Go.dup W1.cx d_method_3_147 rfl ?_
  refine Go.iconst W1.cx d_method_3_148 (z := (5 : Int32)) rfl ?_
  refine Go.newarr W1 d_method_3_149 (wd hw 21 rfl) (z := (5 : Int32)) (cap := 5) (by decide) (by decide) (by decide) (cells' := 2) (slots' := 9) rfl rfl (by decide) (by decide) ?_
  intro T2 h2 a2 ka2 g2 W2 E2 A2
  have V2 : CArr Z h2 a2 ka2 [0, 0, 0, 0, 0] := CArr.of_new A2 (k := 5) rfl rfl
  have X2 : Ext h0 h2 := ext_trans E1 E2
  have N2 := N1.ext E2
  have Aq1 := A.ext E1
  have Aq2 := Aq1.ext E2
  refine Go.dup W2.cx d_method_3_151 rfl ?_
  refine Go.iconst W2.cx d_method_3_152 (z := (0 : Int32)) rfl ?_
  refine Go.aload_n W2.cx d_method_3_153 (v := (.ref a)) rfl rfl ?_
  refine Go.iconst W2.cx d_method_3_154 (z := (0 : Int32)) rfl ?_
  refine Go.caload W2 0 d_method_3_155 Aq2 rfl (by omega) (by omega) (v := (cs.getD 0 0)) rfl ?_
  refine Go.castore W2 0 d_method_3_156 V2 (by simp) rfl (Nat.le_of_ble_eq_true rfl) (Nat.le_of_ble_eq_true rfl) (x' := (cs.getD 0 0)) (nar_ch (getD_ch hp (i := 0) (by omega))) ?_
  intro T3 h3 W3 K3 V3
  have V3 : CArr Z h3 a2 ka2 [(cs.getD 0 0), 0, 0, 0, 0] := V3
  have N3 := N2.keep K3 (nin1 N1.1.lt g2)
  have X3 : Ext h0 h3 := ext_keep X2 K3 (all1 (by rw [g2]; exact E1.1))
  have Aq3 := Aq2.keep K3 (nin1 Aq1.lt g2)
  refine Go.dup W3.cx d_method_3_157 rfl ?_
  refine Go.iconst W3.cx d_method_3_158 (z := (1 : Int32)) rfl ?_
  refine Go.aload_n W3.cx d_method_3_159 (v := (.ref a)) rfl rfl ?_
  refine Go.iconst W3.cx d_method_3_160 (z := (1 : Int32)) rfl ?_
  refine Go.caload W3 1 d_method_3_161 Aq3 rfl (by omega) (by omega) (v := (cs.getD 1 0)) rfl ?_
  refine Go.castore W3 1 d_method_3_162 V3 (by simp) rfl (Nat.le_of_ble_eq_true rfl) (Nat.le_of_ble_eq_true rfl) (x' := (cs.getD 1 0)) (nar_ch (getD_ch hp (i := 1) (by omega))) ?_
  intro T4 h4 W4 K4 V4
  have V4 : CArr Z h4 a2 ka2 [(cs.getD 0 0), (cs.getD 1 0), 0, 0, 0] := V4
  have N4 := N3.keep K4 (nin1 N1.1.lt g2)
  have X4 : Ext h0 h4 := ext_keep X3 K4 (all1 (by rw [g2]; exact E1.1))
  have Aq4 := Aq3.keep K4 (nin1 Aq1.lt g2)
  refine Go.dup W4.cx d_method_3_163 rfl ?_
  refine Go.iconst W4.cx d_method_3_164 (z := (2 : Int32)) rfl ?_
  refine Go.aload_n W4.cx d_method_3_165 (v := (.ref a)) rfl rfl ?_
  refine Go.iconst W4.cx d_method_3_166 (z := (2 : Int32)) rfl ?_
  refine Go.caload W4 2 d_method_3_167 Aq4 rfl (by omega) (by omega) (v := (cs.getD 2 0)) rfl ?_
  refine Go.castore W4 2 d_method_3_168 V4 (by simp) rfl (Nat.le_of_ble_eq_true rfl) (Nat.le_of_ble_eq_true rfl) (x' := (cs.getD 2 0)) (nar_ch (getD_ch hp (i := 2) (by omega))) ?_
  intro T5 h5 W5 K5 V5
  have V5 : CArr Z h5 a2 ka2 [(cs.getD 0 0), (cs.getD 1 0), (cs.getD 2 0), 0, 0] := V5
  have N5 := N4.keep K5 (nin1 N1.1.lt g2)
  have X5 : Ext h0 h5 := ext_keep X4 K5 (all1 (by rw [g2]; exact E1.1))
  have Aq5 := Aq4.keep K5 (nin1 Aq1.lt g2)
  refine Go.dup W5.cx d_method_3_169 rfl ?_
  refine Go.iconst W5.cx d_method_3_170 (z := (3 : Int32)) rfl ?_
  refine Go.aload_n W5.cx d_method_3_171 (v := (.ref a)) rfl rfl ?_
  refine Go.iconst W5.cx d_method_3_172 (z := (3 : Int32)) rfl ?_
  refine Go.caload W5 3 d_method_3_173 Aq5 rfl (by omega) (by omega) (v := (cs.getD 3 0)) rfl ?_
  refine Go.castore W5 3 d_method_3_174 V5 (by simp) rfl (Nat.le_of_ble_eq_true rfl) (Nat.le_of_ble_eq_true rfl) (x' := (cs.getD 3 0)) (nar_ch (getD_ch hp (i := 3) (by omega))) ?_
  intro T6 h6 W6 K6 V6
  have V6 : CArr Z h6 a2 ka2 [(cs.getD 0 0), (cs.getD 1 0), (cs.getD 2 0), (cs.getD 3 0), 0] := V6
  have N6 := N5.keep K6 (nin1 N1.1.lt g2)
  have X6 : Ext h0 h6 := ext_keep X5 K6 (all1 (by rw [g2]; exact E1.1))
  have Aq6 := Aq5.keep K6 (nin1 Aq1.lt g2)
  refine Go.dup W6.cx d_method_3_175 rfl ?_
  refine Go.iconst W6.cx d_method_3_176 (z := (4 : Int32)) rfl ?_
  refine Go.aload_n W6.cx d_method_3_177 (v := (.ref a)) rfl rfl ?_
  refine Go.iconst W6.cx d_method_3_178 (z := (4 : Int32)) rfl ?_
  refine Go.caload W6 4 d_method_3_179 Aq6 rfl (by omega) (by omega) (v := (cs.getD 4 0)) rfl ?_
  refine Go.castore W6 4 d_method_3_180 V6 (by simp) rfl (Nat.le_of_ble_eq_true rfl) (Nat.le_of_ble_eq_true rfl) (x' := (cs.getD 4 0)) (nar_ch (getD_ch hp (i := 4) (by omega))) ?_
  intro T7 h7 W7 K7 V7
  have V7 : CArr Z h7 a2 ka2 [(cs.getD 0 0), (cs.getD 1 0), (cs.getD 2 0), (cs.getD 3 0), (cs.getD 4 0)] := V7
  have N7 := N6.keep K7 (nin1 N1.1.lt g2)
  have X7 : Ext h0 h7 := ext_keep X6 K7 (all1 (by rw [g2]; exact E1.1))
  have Aq7 := Aq6.keep K7 (nin1 Aq1.lt g2)
  have hp8 : ∀ c ∈ [(cs.getD 0 0), (cs.getD 1 0), (cs.getD 2 0), (cs.getD 3 0), (cs.getD 4 0)], ¬ c < 0 ∧ ¬ (255 : Int32) < c := all_cons (getD_ch hp (i := 0) (by omega)) (all_cons (getD_ch hp (i := 1) (by omega)) (all_cons (getD_ch hp (i := 2) (by omega)) (all_cons (getD_ch hp (i := 3) (by omega)) (all_cons (getD_ch hp (i := 4) (by omega)) (all_nil)))))
  refine Go.invi W7 (newStr (wt := 1) W7.ew hw hG N7 V7 (W7.mine (by simp)) (by simp) hp8 (Nat.le_of_ble_eq_true rfl) (Nat.le_of_ble_eq_true rfl) (by decide) (by decide)) d_method_3_181 rfl (wd hw 53 rfl) (wd hw 54 rfl) (wd hw 55 rfl) (by decide) pd_3 rfl rfl (rest := [(.ref a1)]) rfl (Nat.le_of_eq rfl) (cells' := 3) (slots' := 14) rfl rfl (by decide) (by decide) ?_
  rintro T9 h9 W9 z9 ⟨K9, S9⟩
  have X9 : Ext h0 h9 := ext_keep X7 K9 (all1 (Nat.le_of_eq g1.symm))
  exact Go.aret W9 d_method_3_184 rfl rfl rfl (by decide) (by decide) ⟨_, rfl, a1, rfl, X9, by rw [tk5 hn2]; exact S9⟩
theorem d_method_3_185 : Dec method_3_code 185 (.iload_n 1) 1 186 := ⟨by decide +kernel, rfl⟩
theorem d_method_3_186 : Dec method_3_code 186 (.bipush 6) 2 188 := ⟨by decide +kernel, rfl⟩
theorem d_method_3_188 : Dec method_3_code 188 (.if_icmp .ne 51) 3 191 := ⟨by decide +kernel, rfl⟩
theorem d_method_3_191 : Dec method_3_code 191 (.new 8) 3 194 := ⟨by decide +kernel, rfl⟩
theorem d_method_3_194 : Dec method_3_code 194 (.dup) 1 195 := ⟨by decide +kernel, rfl⟩
theorem d_method_3_195 : Dec method_3_code 195 (.bipush 6) 2 197 := ⟨by decide +kernel, rfl⟩
theorem d_method_3_197 : Dec method_3_code 197 (.newarray .char) 2 199 := ⟨by decide +kernel, rfl⟩
theorem d_method_3_199 : Dec method_3_code 199 (.dup) 1 200 := ⟨by decide +kernel, rfl⟩
theorem d_method_3_200 : Dec method_3_code 200 (.iconst 0) 1 201 := ⟨by decide +kernel, rfl⟩
theorem d_method_3_201 : Dec method_3_code 201 (.aload_n 0) 1 202 := ⟨by decide +kernel, rfl⟩
theorem d_method_3_202 : Dec method_3_code 202 (.iconst 0) 1 203 := ⟨by decide +kernel, rfl⟩
theorem d_method_3_203 : Dec method_3_code 203 (.caload) 1 204 := ⟨by decide +kernel, rfl⟩
theorem d_method_3_204 : Dec method_3_code 204 (.castore) 1 205 := ⟨by decide +kernel, rfl⟩
theorem d_method_3_205 : Dec method_3_code 205 (.dup) 1 206 := ⟨by decide +kernel, rfl⟩
theorem d_method_3_206 : Dec method_3_code 206 (.iconst 1) 1 207 := ⟨by decide +kernel, rfl⟩
theorem d_method_3_207 : Dec method_3_code 207 (.aload_n 0) 1 208 := ⟨by decide +kernel, rfl⟩
theorem d_method_3_208 : Dec method_3_code 208 (.iconst 1) 1 209 := ⟨by decide +kernel, rfl⟩
theorem d_method_3_209 : Dec method_3_code 209 (.caload) 1 210 := ⟨by decide +kernel, rfl⟩
theorem d_method_3_210 : Dec method_3_code 210 (.castore) 1 211 := ⟨by decide +kernel, rfl⟩
theorem d_method_3_211 : Dec method_3_code 211 (.dup) 1 212 := ⟨by decide +kernel, rfl⟩
theorem d_method_3_212 : Dec method_3_code 212 (.iconst 2) 1 213 := ⟨by decide +kernel, rfl⟩
theorem d_method_3_213 : Dec method_3_code 213 (.aload_n 0) 1 214 := ⟨by decide +kernel, rfl⟩
theorem d_method_3_214 : Dec method_3_code 214 (.iconst 2) 1 215 := ⟨by decide +kernel, rfl⟩
theorem d_method_3_215 : Dec method_3_code 215 (.caload) 1 216 := ⟨by decide +kernel, rfl⟩
theorem d_method_3_216 : Dec method_3_code 216 (.castore) 1 217 := ⟨by decide +kernel, rfl⟩
theorem d_method_3_217 : Dec method_3_code 217 (.dup) 1 218 := ⟨by decide +kernel, rfl⟩
theorem d_method_3_218 : Dec method_3_code 218 (.iconst 3) 1 219 := ⟨by decide +kernel, rfl⟩
theorem d_method_3_219 : Dec method_3_code 219 (.aload_n 0) 1 220 := ⟨by decide +kernel, rfl⟩
theorem d_method_3_220 : Dec method_3_code 220 (.iconst 3) 1 221 := ⟨by decide +kernel, rfl⟩
theorem d_method_3_221 : Dec method_3_code 221 (.caload) 1 222 := ⟨by decide +kernel, rfl⟩
theorem d_method_3_222 : Dec method_3_code 222 (.castore) 1 223 := ⟨by decide +kernel, rfl⟩
theorem d_method_3_223 : Dec method_3_code 223 (.dup) 1 224 := ⟨by decide +kernel, rfl⟩
theorem d_method_3_224 : Dec method_3_code 224 (.iconst 4) 1 225 := ⟨by decide +kernel, rfl⟩
theorem d_method_3_225 : Dec method_3_code 225 (.aload_n 0) 1 226 := ⟨by decide +kernel, rfl⟩
theorem d_method_3_226 : Dec method_3_code 226 (.iconst 4) 1 227 := ⟨by decide +kernel, rfl⟩
theorem d_method_3_227 : Dec method_3_code 227 (.caload) 1 228 := ⟨by decide +kernel, rfl⟩
theorem d_method_3_228 : Dec method_3_code 228 (.castore) 1 229 := ⟨by decide +kernel, rfl⟩
theorem d_method_3_229 : Dec method_3_code 229 (.dup) 1 230 := ⟨by decide +kernel, rfl⟩
theorem d_method_3_230 : Dec method_3_code 230 (.iconst 5) 1 231 := ⟨by decide +kernel, rfl⟩
theorem d_method_3_231 : Dec method_3_code 231 (.aload_n 0) 1 232 := ⟨by decide +kernel, rfl⟩
theorem d_method_3_232 : Dec method_3_code 232 (.iconst 5) 1 233 := ⟨by decide +kernel, rfl⟩
theorem d_method_3_233 : Dec method_3_code 233 (.caload) 1 234 := ⟨by decide +kernel, rfl⟩
theorem d_method_3_234 : Dec method_3_code 234 (.castore) 1 235 := ⟨by decide +kernel, rfl⟩
theorem d_method_3_235 : Dec method_3_code 235 (.invokespecial 17) 3 238 := ⟨by decide +kernel, rfl⟩
theorem d_method_3_238 : Dec method_3_code 238 (.areturn) 1 239 := ⟨by decide +kernel, rfl⟩
set_option maxRecDepth 65536 in
set_option maxHeartbeats 40000000 in
theorem c_make6 (l : Launch) (Z : State) (a0 : Array Value) (hw : ∀ d ∈ tables_1, d.before a0 Z = true) (hE : EW Z a0 EL0) {n0 : Nat} {h0 : Heap} (hO : Old Z n0 h0) (hG : Gl Z) {a : Addr} {ka : ClassId} {cs : List Int32} (A : CArr Z h0 a ka cs) (hp : ∀ c ∈ cs, ¬ c < 0 ∧ ¬ (255 : Int32) < c) (hcl : cs.length ≤ 4000) (hn2 : 6 ≤ cs.length) :
    Ctr NW EL0 n0 Z [] l (⟨"com/example/serialis/serialis/marc/MarcFormatByLabelPinLaw", "make", "([CI)Ljava/lang/String;"⟩ : MethodName) method_3_code 2 (some (.object "java/lang/String")) ({ frames := 4, cells := 6, slots := 20, locals := 66 } : Room) #[.ref a, .int (Int32.ofNat 6)] h0 (RV fun w h => ∃ r, w = .ref r ∧ Ext h0 h ∧ Str Z h r (cs.take 6)) := by
  refine Ctr.body (plainFor_of_name pn_1) hE hO (fun x q => nomatch q) (L0 := #[.val (.ref a), .val (.int (Int32.ofNat 6))]) (fun m => by first | (simp [entryFrame, mkF, argsToLocals, Value.category, maxLocals]; done) | rfl) ?_
  intro p e s m below meth c T0 W0
  refine Go.iload_n W0.cx d_method_3_0 (v := (Int32.ofNat 6)) rfl ?_
  refine Go.ifne W0.cx d_method_3_1 (by decide) (q := 15) rfl (fun _ => ?_) (fun hh => (by first | exact absurd (by decide : ¬ Int32.ofNat 6 = 0) hh | exact absurd hh (by decide : ¬ Int32.ofNat 6 = 0)))
  refine Go.iload_n W0.cx d_method_3_15 (v := (Int32.ofNat 6)) rfl ?_
  refine Go.iconst W0.cx d_method_3_16 (z := (1 : Int32)) rfl ?_
  refine Go.icne W0.cx d_method_3_17 (by decide) (q := 37) rfl (fun _ => ?_) (fun hh => (by first | exact absurd (by decide : ¬ Int32.ofNat 6 = 1) hh | exact absurd hh (by decide : ¬ Int32.ofNat 6 = 1)))
  refine Go.iload_n W0.cx d_method_3_37 (v := (Int32.ofNat 6)) rfl ?_
  refine Go.iconst W0.cx d_method_3_38 (z := (2 : Int32)) rfl ?_
  refine Go.icne W0.cx d_method_3_39 (by decide) (q := 65) rfl (fun _ => ?_) (fun hh => (by first | exact absurd (by decide : ¬ Int32.ofNat 6 = 2) hh | exact absurd hh (by decide : ¬ Int32.ofNat 6 = 2)))
  refine Go.iload_n W0.cx d_method_3_65 (v := (Int32.ofNat 6)) rfl ?_
  refine Go.iconst W0.cx d_method_3_66 (z := (3 : Int32)) rfl ?_
  refine Go.icne W0.cx d_method_3_67 (by decide) (q := 99) rfl (fun _ => ?_) (fun hh => (by first | exact absurd (by decide : ¬ Int32.ofNat 6 = 3) hh | exact absurd hh (by decide : ¬ Int32.ofNat 6 = 3)))
  refine Go.iload_n W0.cx d_method_3_99 (v := (Int32.ofNat 6)) rfl ?_
  refine Go.iconst W0.cx d_method_3_100 (z := (4 : Int32)) rfl ?_
  refine Go.icne W0.cx d_method_3_101 (by decide) (q := 139) rfl (fun _ => ?_) (fun hh => (by first | exact absurd (by decide : ¬ Int32.ofNat 6 = 4) hh | exact absurd hh (by decide : ¬ Int32.ofNat 6 = 4)))
  refine Go.iload_n W0.cx d_method_3_139 (v := (Int32.ofNat 6)) rfl ?_
  refine Go.iconst W0.cx d_method_3_140 (z := (5 : Int32)) rfl ?_
  refine Go.icne W0.cx d_method_3_141 (by decide) (q := 185) rfl (fun _ => ?_) (fun hh => (by first | exact absurd (by decide : ¬ Int32.ofNat 6 = 5) hh | exact absurd hh (by decide : ¬ Int32.ofNat 6 = 5)))
  refine Go.iload_n W0.cx d_method_3_185 (v := (Int32.ofNat 6)) rfl ?_
  refine Go.bipush W0.cx d_method_3_186 (z := (6 : Int32)) rfl ?_
  refine Go.icne W0.cx d_method_3_188 (by decide) (q := 239) rfl (fun hh => (by first | exact absurd (by decide : Int32.ofNat 6 = 6) hh | exact absurd hh (by decide : Int32.ofNat 6 = 6))) (fun _ => ?_)
  refine Go.new W0 d_method_3_191 (wd hw 52 rfl) (wd hw 2 rfl) (wd hw 1 rfl) (cells' := 1) (slots' := 4) rfl rfl (by decide) (by decide) ?_
  intro T1 h1 a1 g1 W1 E1 A1 D1
  have N1 : NewS Z h1 a1 := ⟨A1, D1 (Or.inr (wd hw 4 rfl)) (t := .array .byte) (by decide), D1 (Or.inr (wd hw 5 rfl)) (t := .byte) (by decide)⟩
  refine Go.dup W1.cx d_method_3_194 rfl ?_
  refine Go.bipush W1.cx d_method_3_195 (z := (6 : Int32)) rfl ?_
  refine Go.newarr W1 d_method_3_197 (wd hw 21 rfl) (z := (6 : Int32)) (cap := 6) (by decide) (by decide) (by decide) (cells' := 2) (slots' := 10) rfl rfl (by decide) (by decide) ?_
  intro T2 h2 a2 ka2 g2 W2 E2 A2
  have V2 : CArr Z h2 a2 ka2 [0, 0, 0, 0, 0, 0] := CArr.of_new A2 (k := 6) rfl rfl
  have X2 : Ext h0 h2 := ext_trans E1 E2
  have N2 := N1.ext E2
  have Aq1 := A.ext E1
  have Aq2 := Aq1.ext E2
  refine Go.dup W2.cx d_method_3_199 rfl ?_
  refine Go.iconst W2.cx d_method_3_200 (z := (0 : Int32)) rfl ?_
  refine Go.aload_n W2.cx d_method_3_201 (v := (.ref a)) rfl rfl ?_
  refine Go.iconst W2.cx d_method_3_202 (z := (0 : Int32)) rfl ?_
  refine Go.caload W2 0 d_method_3_203 Aq2 rfl (by omega) (by omega) (v := (cs.getD 0 0)) rfl ?_
  refine Go.castore W2 0 d_method_3_204 V2 (by simp) rfl (Nat.le_of_ble_eq_true rfl) (Nat.le_of_ble_eq_true rfl) (x' := (cs.getD 0 0)) (nar_ch (getD_ch hp (i := 0) (by omega))) ?_
  intro T3 h3 W3 K3 V3
  have V3 : CArr Z h3 a2 ka2 [(cs.getD 0 0), 0, 0, 0, 0, 0] := V3
  have N3 := N2.keep K3 (nin1 N1.1.lt g2)
  have X3 : Ext h0 h3 := ext_keep X2 K3 (all1 (by rw [g2]; exact E1.1))
  have Aq3 := Aq2.keep K3 (nin1 Aq1.lt g2)
  refine Go.dup W3.cx d_method_3_205 rfl ?_
  refine Go.iconst W3.cx d_method_3_206 (z := (1 : Int32)) rfl ?_
  refine Go.aload_n W3.cx d_method_3_207 (v := (.ref a)) rfl rfl ?_
  refine Go.iconst W3.cx d_method_3_208 (z := (1 : Int32)) rfl ?_
  refine Go.caload W3 1 d_method_3_209 Aq3 rfl (by omega) (by omega) (v := (cs.getD 1 0)) rfl ?_
  refine Go.castore W3 1 d_method_3_210 V3 (by simp) rfl (Nat.le_of_ble_eq_true rfl) (Nat.le_of_ble_eq_true rfl) (x' := (cs.getD 1 0)) (nar_ch (getD_ch hp (i := 1) (by omega))) ?_
  intro T4 h4 W4 K4 V4
  have V4 : CArr Z h4 a2 ka2 [(cs.getD 0 0), (cs.getD 1 0), 0, 0, 0, 0] := V4
  have N4 := N3.keep K4 (nin1 N1.1.lt g2)
  have X4 : Ext h0 h4 := ext_keep X3 K4 (all1 (by rw [g2]; exact E1.1))
  have Aq4 := Aq3.keep K4 (nin1 Aq1.lt g2)
  refine Go.dup W4.cx d_method_3_211 rfl ?_
  refine Go.iconst W4.cx d_method_3_212 (z := (2 : Int32)) rfl ?_
  refine Go.aload_n W4.cx d_method_3_213 (v := (.ref a)) rfl rfl ?_
  refine Go.iconst W4.cx d_method_3_214 (z := (2 : Int32)) rfl ?_
  refine Go.caload W4 2 d_method_3_215 Aq4 rfl (by omega) (by omega) (v := (cs.getD 2 0)) rfl ?_
  refine Go.castore W4 2 d_method_3_216 V4 (by simp) rfl (Nat.le_of_ble_eq_true rfl) (Nat.le_of_ble_eq_true rfl) (x' := (cs.getD 2 0)) (nar_ch (getD_ch hp (i := 2) (by omega))) ?_
  intro T5 h5 W5 K5 V5
  have V5 : CArr Z h5 a2 ka2 [(cs.getD 0 0), (cs.getD 1 0), (cs.getD 2 0), 0, 0, 0] := V5
  have N5 := N4.keep K5 (nin1 N1.1.lt g2)
  have X5 : Ext h0 h5 := ext_keep X4 K5 (all1 (by rw [g2]; exact E1.1))
  have Aq5 := Aq4.keep K5 (nin1 Aq1.lt g2)
  refine Go.dup W5.cx d_method_3_217 rfl ?_
  refine Go.iconst W5.cx d_method_3_218 (z := (3 : Int32)) rfl ?_
  refine Go.aload_n W5.cx d_method_3_219 (v := (.ref a)) rfl rfl ?_
  refine Go.iconst W5.cx d_method_3_220 (z := (3 : Int32)) rfl ?_
  refine Go.caload W5 3 d_method_3_221 Aq5 rfl (by omega) (by omega) (v := (cs.getD 3 0)) rfl ?_
  refine Go.castore W5 3 d_method_3_222 V5 (by simp) rfl (Nat.le_of_ble_eq_true rfl) (Nat.le_of_ble_eq_true rfl) (x' := (cs.getD 3 0)) (nar_ch (getD_ch hp (i := 3) (by omega))) ?_
  intro T6 h6 W6 K6 V6
  have V6 : CArr Z h6 a2 ka2 [(cs.getD 0 0), (cs.getD 1 0), (cs.getD 2 0), (cs.getD 3 0), 0, 0] := V6
  have N6 := N5.keep K6 (nin1 N1.1.lt g2)
  have X6 : Ext h0 h6 := ext_keep X5 K6 (all1 (by rw [g2]; exact E1.1))
  have Aq6 := Aq5.keep K6 (nin1 Aq1.lt g2)
  refine Go.dup W6.cx d_method_3_223 rfl ?_
  refine Go.iconst W6.cx d_method_3_224 (z := (4 : Int32)) rfl ?_
  refine Go.aload_n W6.cx d_method_3_225 (v := (.ref a)) rfl rfl ?_
  refine Go.iconst W6.cx d_method_3_226 (z := (4 : Int32)) rfl ?_
  refine Go.caload W6 4 d_method_3_227 Aq6 rfl (by omega) (by omega) (v := (cs.getD 4 0)) rfl ?_
  refine Go.castore W6 4 d_method_3_228 V6 (by simp) rfl (Nat.le_of_ble_eq_true rfl) (Nat.le_of_ble_eq_true rfl) (x' := (cs.getD 4 0)) (nar_ch (getD_ch hp (i := 4) (by omega))) ?_
  intro T7 h7 W7 K7 V7
  have V7 : CArr Z h7 a2 ka2 [(cs.getD 0 0), (cs.getD 1 0), (cs.getD 2 0), (cs.getD 3 0), (cs.getD 4 0), 0] := V7
  have N7 := N6.keep K7 (nin1 N1.1.lt g2)
  have X7 : Ext h0 h7 := ext_keep X6 K7 (all1 (by rw [g2]; exact E1.1))
  have Aq7 := Aq6.keep K7 (nin1 Aq1.lt g2)
  refine Go.dup W7.cx d_method_3_229 rfl ?_
  refine Go.iconst W7.cx d_method_3_230 (z := (5 : Int32)) rfl ?_
  refine Go.aload_n W7.cx d_method_3_231 (v := (.ref a)) rfl rfl ?_
  refine Go.iconst W7.cx d_method_3_232 (z := (5 : Int32)) rfl ?_
  refine Go.caload W7 5 d_method_3_233 Aq7 rfl (by omega) (by omega) (v := (cs.getD 5 0)) rfl ?_
  refine Go.castore W7 5 d_method_3_234 V7 (by simp) rfl (Nat.le_of_ble_eq_true rfl) (Nat.le_of_ble_eq_true rfl) (x' := (cs.getD 5 0)) (nar_ch (getD_ch hp (i := 5) (by omega))) ?_
  intro T8 h8 W8 K8 V8
  have V8 : CArr Z h8 a2 ka2 [(cs.getD 0 0), (cs.getD 1 0), (cs.getD 2 0), (cs.getD 3 0), (cs.getD 4 0), (cs.getD 5 0)] := V8
  have N8 := N7.keep K8 (nin1 N1.1.lt g2)
  have X8 : Ext h0 h8 := ext_keep X7 K8 (all1 (by rw [g2]; exact E1.1))
  have Aq8 := Aq7.keep K8 (nin1 Aq1.lt g2)
  have hp9 : ∀ c ∈ [(cs.getD 0 0), (cs.getD 1 0), (cs.getD 2 0), (cs.getD 3 0), (cs.getD 4 0), (cs.getD 5 0)], ¬ c < 0 ∧ ¬ (255 : Int32) < c := all_cons (getD_ch hp (i := 0) (by omega)) (all_cons (getD_ch hp (i := 1) (by omega)) (all_cons (getD_ch hp (i := 2) (by omega)) (all_cons (getD_ch hp (i := 3) (by omega)) (all_cons (getD_ch hp (i := 4) (by omega)) (all_cons (getD_ch hp (i := 5) (by omega)) (all_nil))))))
  refine Go.invi W8 (newStr (wt := 1) W8.ew hw hG N8 V8 (W8.mine (by simp)) (by simp) hp9 (Nat.le_of_ble_eq_true rfl) (Nat.le_of_ble_eq_true rfl) (by decide) (by decide)) d_method_3_235 rfl (wd hw 53 rfl) (wd hw 54 rfl) (wd hw 55 rfl) (by decide) pd_3 rfl rfl (rest := [(.ref a1)]) rfl (Nat.le_of_eq rfl) (cells' := 3) (slots' := 16) rfl rfl (by decide) (by decide) ?_
  rintro T10 h10 W10 z10 ⟨K10, S10⟩
  have X10 : Ext h0 h10 := ext_keep X8 K10 (all1 (Nat.le_of_eq g1.symm))
  exact Go.aret W10 d_method_3_238 rfl rfl rfl (by decide) (by decide) ⟨_, rfl, a1, rfl, X10, by rw [tk6 hn2]; exact S10⟩
theorem d_method_3_239 : Dec method_3_code 239 (.iload_n 1) 1 240 := ⟨by decide +kernel, rfl⟩
theorem d_method_3_240 : Dec method_3_code 240 (.bipush 7) 2 242 := ⟨by decide +kernel, rfl⟩
theorem d_method_3_242 : Dec method_3_code 242 (.if_icmp .ne 59) 3 245 := ⟨by decide +kernel, rfl⟩
theorem d_method_3_245 : Dec method_3_code 245 (.new 8) 3 248 := ⟨by decide +kernel, rfl⟩
theorem d_method_3_248 : Dec method_3_code 248 (.dup) 1 249 := ⟨by decide +kernel, rfl⟩
theorem d_method_3_249 : Dec method_3_code 249 (.bipush 7) 2 251 := ⟨by decide +kernel, rfl⟩
theorem d_method_3_251 : Dec method_3_code 251 (.newarray .char) 2 253 := ⟨by decide +kernel, rfl⟩
theorem d_method_3_253 : Dec method_3_code 253 (.dup) 1 254 := ⟨by decide +kernel, rfl⟩
theorem d_method_3_254 : Dec method_3_code 254 (.iconst 0) 1 255 := ⟨by decide +kernel, rfl⟩
theorem d_method_3_255 : Dec method_3_code 255 (.aload_n 0) 1 256 := ⟨by decide +kernel, rfl⟩
theorem d_method_3_256 : Dec method_3_code 256 (.iconst 0) 1 257 := ⟨by decide +kernel, rfl⟩
theorem d_method_3_257 : Dec method_3_code 257 (.caload) 1 258 := ⟨by decide +kernel, rfl⟩
theorem d_method_3_258 : Dec method_3_code 258 (.castore) 1 259 := ⟨by decide +kernel, rfl⟩
theorem d_method_3_259 : Dec method_3_code 259 (.dup) 1 260 := ⟨by decide +kernel, rfl⟩
theorem d_method_3_260 : Dec method_3_code 260 (.iconst 1) 1 261 := ⟨by decide +kernel, rfl⟩
theorem d_method_3_261 : Dec method_3_code 261 (.aload_n 0) 1 262 := ⟨by decide +kernel, rfl⟩
theorem d_method_3_262 : Dec method_3_code 262 (.iconst 1) 1 263 := ⟨by decide +kernel, rfl⟩
theorem d_method_3_263 : Dec method_3_code 263 (.caload) 1 264 := ⟨by decide +kernel, rfl⟩
theorem d_method_3_264 : Dec method_3_code 264 (.castore) 1 265 := ⟨by decide +kernel, rfl⟩
theorem d_method_3_265 : Dec method_3_code 265 (.dup) 1 266 := ⟨by decide +kernel, rfl⟩
theorem d_method_3_266 : Dec method_3_code 266 (.iconst 2) 1 267 := ⟨by decide +kernel, rfl⟩
theorem d_method_3_267 : Dec method_3_code 267 (.aload_n 0) 1 268 := ⟨by decide +kernel, rfl⟩
theorem d_method_3_268 : Dec method_3_code 268 (.iconst 2) 1 269 := ⟨by decide +kernel, rfl⟩
theorem d_method_3_269 : Dec method_3_code 269 (.caload) 1 270 := ⟨by decide +kernel, rfl⟩
theorem d_method_3_270 : Dec method_3_code 270 (.castore) 1 271 := ⟨by decide +kernel, rfl⟩
theorem d_method_3_271 : Dec method_3_code 271 (.dup) 1 272 := ⟨by decide +kernel, rfl⟩
theorem d_method_3_272 : Dec method_3_code 272 (.iconst 3) 1 273 := ⟨by decide +kernel, rfl⟩
theorem d_method_3_273 : Dec method_3_code 273 (.aload_n 0) 1 274 := ⟨by decide +kernel, rfl⟩
theorem d_method_3_274 : Dec method_3_code 274 (.iconst 3) 1 275 := ⟨by decide +kernel, rfl⟩
theorem d_method_3_275 : Dec method_3_code 275 (.caload) 1 276 := ⟨by decide +kernel, rfl⟩
theorem d_method_3_276 : Dec method_3_code 276 (.castore) 1 277 := ⟨by decide +kernel, rfl⟩
theorem d_method_3_277 : Dec method_3_code 277 (.dup) 1 278 := ⟨by decide +kernel, rfl⟩
theorem d_method_3_278 : Dec method_3_code 278 (.iconst 4) 1 279 := ⟨by decide +kernel, rfl⟩
theorem d_method_3_279 : Dec method_3_code 279 (.aload_n 0) 1 280 := ⟨by decide +kernel, rfl⟩
theorem d_method_3_280 : Dec method_3_code 280 (.iconst 4) 1 281 := ⟨by decide +kernel, rfl⟩
theorem d_method_3_281 : Dec method_3_code 281 (.caload) 1 282 := ⟨by decide +kernel, rfl⟩
theorem d_method_3_282 : Dec method_3_code 282 (.castore) 1 283 := ⟨by decide +kernel, rfl⟩
theorem d_method_3_283 : Dec method_3_code 283 (.dup) 1 284 := ⟨by decide +kernel, rfl⟩
theorem d_method_3_284 : Dec method_3_code 284 (.iconst 5) 1 285 := ⟨by decide +kernel, rfl⟩
theorem d_method_3_285 : Dec method_3_code 285 (.aload_n 0) 1 286 := ⟨by decide +kernel, rfl⟩
theorem d_method_3_286 : Dec method_3_code 286 (.iconst 5) 1 287 := ⟨by decide +kernel, rfl⟩
theorem d_method_3_287 : Dec method_3_code 287 (.caload) 1 288 := ⟨by decide +kernel, rfl⟩
theorem d_method_3_288 : Dec method_3_code 288 (.castore) 1 289 := ⟨by decide +kernel, rfl⟩
theorem d_method_3_289 : Dec method_3_code 289 (.dup) 1 290 := ⟨by decide +kernel, rfl⟩
theorem d_method_3_290 : Dec method_3_code 290 (.bipush 6) 2 292 := ⟨by decide +kernel, rfl⟩
theorem d_method_3_292 : Dec method_3_code 292 (.aload_n 0) 1 293 := ⟨by decide +kernel, rfl⟩
theorem d_method_3_293 : Dec method_3_code 293 (.bipush 6) 2 295 := ⟨by decide +kernel, rfl⟩
theorem d_method_3_295 : Dec method_3_code 295 (.caload) 1 296 := ⟨by decide +kernel, rfl⟩
theorem d_method_3_296 : Dec method_3_code 296 (.castore) 1 297 := ⟨by decide +kernel, rfl⟩
theorem d_method_3_297 : Dec method_3_code 297 (.invokespecial 17) 3 300 := ⟨by decide +kernel, rfl⟩
theorem d_method_3_300 : Dec method_3_code 300 (.areturn) 1 301 := ⟨by decide +kernel, rfl⟩
set_option maxRecDepth 65536 in
set_option maxHeartbeats 40000000 in
theorem c_make7 (l : Launch) (Z : State) (a0 : Array Value) (hw : ∀ d ∈ tables_1, d.before a0 Z = true) (hE : EW Z a0 EL0) {n0 : Nat} {h0 : Heap} (hO : Old Z n0 h0) (hG : Gl Z) {a : Addr} {ka : ClassId} {cs : List Int32} (A : CArr Z h0 a ka cs) (hp : ∀ c ∈ cs, ¬ c < 0 ∧ ¬ (255 : Int32) < c) (hcl : cs.length ≤ 4000) (hn2 : 7 ≤ cs.length) :
    Ctr NW EL0 n0 Z [] l (⟨"com/example/serialis/serialis/marc/MarcFormatByLabelPinLaw", "make", "([CI)Ljava/lang/String;"⟩ : MethodName) method_3_code 2 (some (.object "java/lang/String")) ({ frames := 4, cells := 6, slots := 20, locals := 66 } : Room) #[.ref a, .int (Int32.ofNat 7)] h0 (RV fun w h => ∃ r, w = .ref r ∧ Ext h0 h ∧ Str Z h r (cs.take 7)) := by
  refine Ctr.body (plainFor_of_name pn_1) hE hO (fun x q => nomatch q) (L0 := #[.val (.ref a), .val (.int (Int32.ofNat 7))]) (fun m => by first | (simp [entryFrame, mkF, argsToLocals, Value.category, maxLocals]; done) | rfl) ?_
  intro p e s m below meth c T0 W0
  refine Go.iload_n W0.cx d_method_3_0 (v := (Int32.ofNat 7)) rfl ?_
  refine Go.ifne W0.cx d_method_3_1 (by decide) (q := 15) rfl (fun _ => ?_) (fun hh => (by first | exact absurd (by decide : ¬ Int32.ofNat 7 = 0) hh | exact absurd hh (by decide : ¬ Int32.ofNat 7 = 0)))
  refine Go.iload_n W0.cx d_method_3_15 (v := (Int32.ofNat 7)) rfl ?_
  refine Go.iconst W0.cx d_method_3_16 (z := (1 : Int32)) rfl ?_
  refine Go.icne W0.cx d_method_3_17 (by decide) (q := 37) rfl (fun _ => ?_) (fun hh => (by first | exact absurd (by decide : ¬ Int32.ofNat 7 = 1) hh | exact absurd hh (by decide : ¬ Int32.ofNat 7 = 1)))
  refine Go.iload_n W0.cx d_method_3_37 (v := (Int32.ofNat 7)) rfl ?_
  refine Go.iconst W0.cx d_method_3_38 (z := (2 : Int32)) rfl ?_
  refine Go.icne W0.cx d_method_3_39 (by decide) (q := 65) rfl (fun _ => ?_) (fun hh => (by first | exact absurd (by decide : ¬ Int32.ofNat 7 = 2) hh | exact absurd hh (by decide : ¬ Int32.ofNat 7 = 2)))
  refine Go.iload_n W0.cx d_method_3_65 (v := (Int32.ofNat 7)) rfl ?_
  refine Go.iconst W0.cx d_method_3_66 (z := (3 : Int32)) rfl ?_
  refine Go.icne W0.cx d_method_3_67 (by decide) (q := 99) rfl (fun _ => ?_) (fun hh => (by first | exact absurd (by decide : ¬ Int32.ofNat 7 = 3) hh | exact absurd hh (by decide : ¬ Int32.ofNat 7 = 3)))
  refine Go.iload_n W0.cx d_method_3_99 (v := (Int32.ofNat 7)) rfl ?_
  refine Go.iconst W0.cx d_method_3_100 (z := (4 : Int32)) rfl ?_
  refine Go.icne W0.cx d_method_3_101 (by decide) (q := 139) rfl (fun _ => ?_) (fun hh => (by first | exact absurd (by decide : ¬ Int32.ofNat 7 = 4) hh | exact absurd hh (by decide : ¬ Int32.ofNat 7 = 4)))
  refine Go.iload_n W0.cx d_method_3_139 (v := (Int32.ofNat 7)) rfl ?_
  refine Go.iconst W0.cx d_method_3_140 (z := (5 : Int32)) rfl ?_
  refine Go.icne W0.cx d_method_3_141 (by decide) (q := 185) rfl (fun _ => ?_) (fun hh => (by first | exact absurd (by decide : ¬ Int32.ofNat 7 = 5) hh | exact absurd hh (by decide : ¬ Int32.ofNat 7 = 5)))
  refine Go.iload_n W0.cx d_method_3_185 (v := (Int32.ofNat 7)) rfl ?_
  refine Go.bipush W0.cx d_method_3_186 (z := (6 : Int32)) rfl ?_
  refine Go.icne W0.cx d_method_3_188 (by decide) (q := 239) rfl (fun _ => ?_) (fun hh => (by first | exact absurd (by decide : ¬ Int32.ofNat 7 = 6) hh | exact absurd hh (by decide : ¬ Int32.ofNat 7 = 6)))
  refine Go.iload_n W0.cx d_method_3_239 (v := (Int32.ofNat 7)) rfl ?_
  refine Go.bipush W0.cx d_method_3_240 (z := (7 : Int32)) rfl ?_
  refine Go.icne W0.cx d_method_3_242 (by decide) (q := 301) rfl (fun hh => (by first | exact absurd (by decide : Int32.ofNat 7 = 7) hh | exact absurd hh (by decide : Int32.ofNat 7 = 7))) (fun _ => ?_)
  refine Go.new W0 d_method_3_245 (wd hw 52 rfl) (wd hw 2 rfl) (wd hw 1 rfl) (cells' := 1) (slots' := 4) rfl rfl (by decide) (by decide) ?_
  intro T1 h1 a1 g1 W1 E1 A1 D1
  have N1 : NewS Z h1 a1 := ⟨A1, D1 (Or.inr (wd hw 4 rfl)) (t := .array .byte) (by decide), D1 (Or.inr (wd hw 5 rfl)) (t := .byte) (by decide)⟩
  refine Go.dup W1.cx d_method_3_248 rfl ?_
  refine Go.bipush W1.cx d_method_3_249 (z := (7 : Int32)) rfl ?_
  refine Go.newarr W1 d_method_3_251 (wd hw 21 rfl) (z := (7 : Int32)) (cap := 7) (by decide) (by decide) (by decide) (cells' := 2) (slots' := 11) rfl rfl (by decide) (by decide) ?_
  intro T2 h2 a2 ka2 g2 W2 E2 A2
  have V2 : CArr Z h2 a2 ka2 [0, 0, 0, 0, 0, 0, 0] := CArr.of_new A2 (k := 7) rfl rfl
  have X2 : Ext h0 h2 := ext_trans E1 E2
  have N2 := N1.ext E2
  have Aq1 := A.ext E1
  have Aq2 := Aq1.ext E2
  refine Go.dup W2.cx d_method_3_253 rfl ?_
  refine Go.iconst W2.cx d_method_3_254 (z := (0 : Int32)) rfl ?_
  refine Go.aload_n W2.cx d_method_3_255 (v := (.ref a)) rfl rfl ?_
  refine Go.iconst W2.cx d_method_3_256 (z := (0 : Int32)) rfl ?_
  refine Go.caload W2 0 d_method_3_257 Aq2 rfl (by omega) (by omega) (v := (cs.getD 0 0)) rfl ?_
  refine Go.castore W2 0 d_method_3_258 V2 (by simp) rfl (Nat.le_of_ble_eq_true rfl) (Nat.le_of_ble_eq_true rfl) (x' := (cs.getD 0 0)) (nar_ch (getD_ch hp (i := 0) (by omega))) ?_
  intro T3 h3 W3 K3 V3
  have V3 : CArr Z h3 a2 ka2 [(cs.getD 0 0), 0, 0, 0, 0, 0, 0] := V3
  have N3 := N2.keep K3 (nin1 N1.1.lt g2)
  have X3 : Ext h0 h3 := ext_keep X2 K3 (all1 (by rw [g2]; exact E1.1))
  have Aq3 := Aq2.keep K3 (nin1 Aq1.lt g2)
  refine Go.dup W3.cx d_method_3_259 rfl ?_
  refine Go.iconst W3.cx d_method_3_260 (z := (1 : Int32)) rfl ?_
  refine Go.aload_n W3.cx d_method_3_261 (v := (.ref a)) rfl rfl ?_
  refine Go.iconst W3.cx d_method_3_262 (z := (1 : Int32)) rfl ?_
  refine Go.caload W3 1 d_method_3_263 Aq3 rfl (by omega) (by omega) (v := (cs.getD 1 0)) rfl ?_
  refine Go.castore W3 1 d_method_3_264 V3 (by simp) rfl (Nat.le_of_ble_eq_true rfl) (Nat.le_of_ble_eq_true rfl) (x' := (cs.getD 1 0)) (nar_ch (getD_ch hp (i := 1) (by omega))) ?_
  intro T4 h4 W4 K4 V4
  have V4 : CArr Z h4 a2 ka2 [(cs.getD 0 0), (cs.getD 1 0), 0, 0, 0, 0, 0] := V4
  have N4 := N3.keep K4 (nin1 N1.1.lt g2)
  have X4 : Ext h0 h4 := ext_keep X3 K4 (all1 (by rw [g2]; exact E1.1))
  have Aq4 := Aq3.keep K4 (nin1 Aq1.lt g2)
  refine Go.dup W4.cx d_method_3_265 rfl ?_
  refine Go.iconst W4.cx d_method_3_266 (z := (2 : Int32)) rfl ?_
  refine Go.aload_n W4.cx d_method_3_267 (v := (.ref a)) rfl rfl ?_
  refine Go.iconst W4.cx d_method_3_268 (z := (2 : Int32)) rfl ?_
  refine Go.caload W4 2 d_method_3_269 Aq4 rfl (by omega) (by omega) (v := (cs.getD 2 0)) rfl ?_
  refine Go.castore W4 2 d_method_3_270 V4 (by simp) rfl (Nat.le_of_ble_eq_true rfl) (Nat.le_of_ble_eq_true rfl) (x' := (cs.getD 2 0)) (nar_ch (getD_ch hp (i := 2) (by omega))) ?_
  intro T5 h5 W5 K5 V5
  have V5 : CArr Z h5 a2 ka2 [(cs.getD 0 0), (cs.getD 1 0), (cs.getD 2 0), 0, 0, 0, 0] := V5
  have N5 := N4.keep K5 (nin1 N1.1.lt g2)
  have X5 : Ext h0 h5 := ext_keep X4 K5 (all1 (by rw [g2]; exact E1.1))
  have Aq5 := Aq4.keep K5 (nin1 Aq1.lt g2)
  refine Go.dup W5.cx d_method_3_271 rfl ?_
  refine Go.iconst W5.cx d_method_3_272 (z := (3 : Int32)) rfl ?_
  refine Go.aload_n W5.cx d_method_3_273 (v := (.ref a)) rfl rfl ?_
  refine Go.iconst W5.cx d_method_3_274 (z := (3 : Int32)) rfl ?_
  refine Go.caload W5 3 d_method_3_275 Aq5 rfl (by omega) (by omega) (v := (cs.getD 3 0)) rfl ?_
  refine Go.castore W5 3 d_method_3_276 V5 (by simp) rfl (Nat.le_of_ble_eq_true rfl) (Nat.le_of_ble_eq_true rfl) (x' := (cs.getD 3 0)) (nar_ch (getD_ch hp (i := 3) (by omega))) ?_
  intro T6 h6 W6 K6 V6
  have V6 : CArr Z h6 a2 ka2 [(cs.getD 0 0), (cs.getD 1 0), (cs.getD 2 0), (cs.getD 3 0), 0, 0, 0] := V6
  have N6 := N5.keep K6 (nin1 N1.1.lt g2)
  have X6 : Ext h0 h6 := ext_keep X5 K6 (all1 (by rw [g2]; exact E1.1))
  have Aq6 := Aq5.keep K6 (nin1 Aq1.lt g2)
  refine Go.dup W6.cx d_method_3_277 rfl ?_
  refine Go.iconst W6.cx d_method_3_278 (z := (4 : Int32)) rfl ?_
  refine Go.aload_n W6.cx d_method_3_279 (v := (.ref a)) rfl rfl ?_
  refine Go.iconst W6.cx d_method_3_280 (z := (4 : Int32)) rfl ?_
  refine Go.caload W6 4 d_method_3_281 Aq6 rfl (by omega) (by omega) (v := (cs.getD 4 0)) rfl ?_
  refine Go.castore W6 4 d_method_3_282 V6 (by simp) rfl (Nat.le_of_ble_eq_true rfl) (Nat.le_of_ble_eq_true rfl) (x' := (cs.getD 4 0)) (nar_ch (getD_ch hp (i := 4) (by omega))) ?_
  intro T7 h7 W7 K7 V7
  have V7 : CArr Z h7 a2 ka2 [(cs.getD 0 0), (cs.getD 1 0), (cs.getD 2 0), (cs.getD 3 0), (cs.getD 4 0), 0, 0] := V7
  have N7 := N6.keep K7 (nin1 N1.1.lt g2)
  have X7 : Ext h0 h7 := ext_keep X6 K7 (all1 (by rw [g2]; exact E1.1))
  have Aq7 := Aq6.keep K7 (nin1 Aq1.lt g2)
  refine Go.dup W7.cx d_method_3_283 rfl ?_
  refine Go.iconst W7.cx d_method_3_284 (z := (5 : Int32)) rfl ?_
  refine Go.aload_n W7.cx d_method_3_285 (v := (.ref a)) rfl rfl ?_
  refine Go.iconst W7.cx d_method_3_286 (z := (5 : Int32)) rfl ?_
  refine Go.caload W7 5 d_method_3_287 Aq7 rfl (by omega) (by omega) (v := (cs.getD 5 0)) rfl ?_
  refine Go.castore W7 5 d_method_3_288 V7 (by simp) rfl (Nat.le_of_ble_eq_true rfl) (Nat.le_of_ble_eq_true rfl) (x' := (cs.getD 5 0)) (nar_ch (getD_ch hp (i := 5) (by omega))) ?_
  intro T8 h8 W8 K8 V8
  have V8 : CArr Z h8 a2 ka2 [(cs.getD 0 0), (cs.getD 1 0), (cs.getD 2 0), (cs.getD 3 0), (cs.getD 4 0), (cs.getD 5 0), 0] := V8
  have N8 := N7.keep K8 (nin1 N1.1.lt g2)
  have X8 : Ext h0 h8 := ext_keep X7 K8 (all1 (by rw [g2]; exact E1.1))
  have Aq8 := Aq7.keep K8 (nin1 Aq1.lt g2)
  refine Go.dup W8.cx d_method_3_289 rfl ?_
  refine Go.bipush W8.cx d_method_3_290 (z := (6 : Int32)) rfl ?_
  refine Go.aload_n W8.cx d_method_3_292 (v := (.ref a)) rfl rfl ?_
  refine Go.bipush W8.cx d_method_3_293 (z := (6 : Int32)) rfl ?_
  refine Go.caload W8 6 d_method_3_295 Aq8 rfl (by omega) (by omega) (v := (cs.getD 6 0)) rfl ?_
  refine Go.castore W8 6 d_method_3_296 V8 (by simp) rfl (Nat.le_of_ble_eq_true rfl) (Nat.le_of_ble_eq_true rfl) (x' := (cs.getD 6 0)) (nar_ch (getD_ch hp (i := 6) (by omega))) ?_
  intro T9 h9 W9 K9 V9
  have V9 : CArr Z h9 a2 ka2 [(cs.getD 0 0), (cs.getD 1 0), (cs.getD 2 0), (cs.getD 3 0), (cs.getD 4 0), (cs.getD 5 0), (cs.getD 6 0)] := V9
  have N9 := N8.keep K9 (nin1 N1.1.lt g2)
  have X9 : Ext h0 h9 := ext_keep X8 K9 (all1 (by rw [g2]; exact E1.1))
  have Aq9 := Aq8.keep K9 (nin1 Aq1.lt g2)
  have hp10 : ∀ c ∈ [(cs.getD 0 0), (cs.getD 1 0), (cs.getD 2 0), (cs.getD 3 0), (cs.getD 4 0), (cs.getD 5 0), (cs.getD 6 0)], ¬ c < 0 ∧ ¬ (255 : Int32) < c := all_cons (getD_ch hp (i := 0) (by omega)) (all_cons (getD_ch hp (i := 1) (by omega)) (all_cons (getD_ch hp (i := 2) (by omega)) (all_cons (getD_ch hp (i := 3) (by omega)) (all_cons (getD_ch hp (i := 4) (by omega)) (all_cons (getD_ch hp (i := 5) (by omega)) (all_cons (getD_ch hp (i := 6) (by omega)) (all_nil)))))))
  refine Go.invi W9 (newStr (wt := 1) W9.ew hw hG N9 V9 (W9.mine (by simp)) (by simp) hp10 (Nat.le_of_ble_eq_true rfl) (Nat.le_of_ble_eq_true rfl) (by decide) (by decide)) d_method_3_297 rfl (wd hw 53 rfl) (wd hw 54 rfl) (wd hw 55 rfl) (by decide) pd_3 rfl rfl (rest := [(.ref a1)]) rfl (Nat.le_of_eq rfl) (cells' := 3) (slots' := 18) rfl rfl (by decide) (by decide) ?_
  rintro T11 h11 W11 z11 ⟨K11, S11⟩
  have X11 : Ext h0 h11 := ext_keep X9 K11 (all1 (Nat.le_of_eq g1.symm))
  exact Go.aret W11 d_method_3_300 rfl rfl rfl (by decide) (by decide) ⟨_, rfl, a1, rfl, X11, by rw [tk7 hn2]; exact S11⟩
theorem d_method_3_301 : Dec method_3_code 301 (.new 8) 3 304 := ⟨by decide +kernel, rfl⟩
theorem d_method_3_304 : Dec method_3_code 304 (.dup) 1 305 := ⟨by decide +kernel, rfl⟩
theorem d_method_3_305 : Dec method_3_code 305 (.bipush 8) 2 307 := ⟨by decide +kernel, rfl⟩
theorem d_method_3_307 : Dec method_3_code 307 (.newarray .char) 2 309 := ⟨by decide +kernel, rfl⟩
theorem d_method_3_309 : Dec method_3_code 309 (.dup) 1 310 := ⟨by decide +kernel, rfl⟩
theorem d_method_3_310 : Dec method_3_code 310 (.iconst 0) 1 311 := ⟨by decide +kernel, rfl⟩
theorem d_method_3_311 : Dec method_3_code 311 (.aload_n 0) 1 312 := ⟨by decide +kernel, rfl⟩
theorem d_method_3_312 : Dec method_3_code 312 (.iconst 0) 1 313 := ⟨by decide +kernel, rfl⟩
theorem d_method_3_313 : Dec method_3_code 313 (.caload) 1 314 := ⟨by decide +kernel, rfl⟩
theorem d_method_3_314 : Dec method_3_code 314 (.castore) 1 315 := ⟨by decide +kernel, rfl⟩
theorem d_method_3_315 : Dec method_3_code 315 (.dup) 1 316 := ⟨by decide +kernel, rfl⟩
theorem d_method_3_316 : Dec method_3_code 316 (.iconst 1) 1 317 := ⟨by decide +kernel, rfl⟩
theorem d_method_3_317 : Dec method_3_code 317 (.aload_n 0) 1 318 := ⟨by decide +kernel, rfl⟩
theorem d_method_3_318 : Dec method_3_code 318 (.iconst 1) 1 319 := ⟨by decide +kernel, rfl⟩
theorem d_method_3_319 : Dec method_3_code 319 (.caload) 1 320 := ⟨by decide +kernel, rfl⟩
theorem d_method_3_320 : Dec method_3_code 320 (.castore) 1 321 := ⟨by decide +kernel, rfl⟩
theorem d_method_3_321 : Dec method_3_code 321 (.dup) 1 322 := ⟨by decide +kernel, rfl⟩
theorem d_method_3_322 : Dec method_3_code 322 (.iconst 2) 1 323 := ⟨by decide +kernel, rfl⟩
theorem d_method_3_323 : Dec method_3_code 323 (.aload_n 0) 1 324 := ⟨by decide +kernel, rfl⟩
theorem d_method_3_324 : Dec method_3_code 324 (.iconst 2) 1 325 := ⟨by decide +kernel, rfl⟩
theorem d_method_3_325 : Dec method_3_code 325 (.caload) 1 326 := ⟨by decide +kernel, rfl⟩
theorem d_method_3_326 : Dec method_3_code 326 (.castore) 1 327 := ⟨by decide +kernel, rfl⟩
theorem d_method_3_327 : Dec method_3_code 327 (.dup) 1 328 := ⟨by decide +kernel, rfl⟩
theorem d_method_3_328 : Dec method_3_code 328 (.iconst 3) 1 329 := ⟨by decide +kernel, rfl⟩
theorem d_method_3_329 : Dec method_3_code 329 (.aload_n 0) 1 330 := ⟨by decide +kernel, rfl⟩
theorem d_method_3_330 : Dec method_3_code 330 (.iconst 3) 1 331 := ⟨by decide +kernel, rfl⟩
theorem d_method_3_331 : Dec method_3_code 331 (.caload) 1 332 := ⟨by decide +kernel, rfl⟩
theorem d_method_3_332 : Dec method_3_code 332 (.castore) 1 333 := ⟨by decide +kernel, rfl⟩
theorem d_method_3_333 : Dec method_3_code 333 (.dup) 1 334 := ⟨by decide +kernel, rfl⟩
theorem d_method_3_334 : Dec method_3_code 334 (.iconst 4) 1 335 := ⟨by decide +kernel, rfl⟩
theorem d_method_3_335 : Dec method_3_code 335 (.aload_n 0) 1 336 := ⟨by decide +kernel, rfl⟩
theorem d_method_3_336 : Dec method_3_code 336 (.iconst 4) 1 337 := ⟨by decide +kernel, rfl⟩
theorem d_method_3_337 : Dec method_3_code 337 (.caload) 1 338 := ⟨by decide +kernel, rfl⟩
theorem d_method_3_338 : Dec method_3_code 338 (.castore) 1 339 := ⟨by decide +kernel, rfl⟩
theorem d_method_3_339 : Dec method_3_code 339 (.dup) 1 340 := ⟨by decide +kernel, rfl⟩
theorem d_method_3_340 : Dec method_3_code 340 (.iconst 5) 1 341 := ⟨by decide +kernel, rfl⟩
theorem d_method_3_341 : Dec method_3_code 341 (.aload_n 0) 1 342 := ⟨by decide +kernel, rfl⟩
theorem d_method_3_342 : Dec method_3_code 342 (.iconst 5) 1 343 := ⟨by decide +kernel, rfl⟩
theorem d_method_3_343 : Dec method_3_code 343 (.caload) 1 344 := ⟨by decide +kernel, rfl⟩
theorem d_method_3_344 : Dec method_3_code 344 (.castore) 1 345 := ⟨by decide +kernel, rfl⟩
theorem d_method_3_345 : Dec method_3_code 345 (.dup) 1 346 := ⟨by decide +kernel, rfl⟩
theorem d_method_3_346 : Dec method_3_code 346 (.bipush 6) 2 348 := ⟨by decide +kernel, rfl⟩
theorem d_method_3_348 : Dec method_3_code 348 (.aload_n 0) 1 349 := ⟨by decide +kernel, rfl⟩
theorem d_method_3_349 : Dec method_3_code 349 (.bipush 6) 2 351 := ⟨by decide +kernel, rfl⟩
theorem d_method_3_351 : Dec method_3_code 351 (.caload) 1 352 := ⟨by decide +kernel, rfl⟩
theorem d_method_3_352 : Dec method_3_code 352 (.castore) 1 353 := ⟨by decide +kernel, rfl⟩
theorem d_method_3_353 : Dec method_3_code 353 (.dup) 1 354 := ⟨by decide +kernel, rfl⟩
theorem d_method_3_354 : Dec method_3_code 354 (.bipush 7) 2 356 := ⟨by decide +kernel, rfl⟩
theorem d_method_3_356 : Dec method_3_code 356 (.aload_n 0) 1 357 := ⟨by decide +kernel, rfl⟩
theorem d_method_3_357 : Dec method_3_code 357 (.bipush 7) 2 359 := ⟨by decide +kernel, rfl⟩
theorem d_method_3_359 : Dec method_3_code 359 (.caload) 1 360 := ⟨by decide +kernel, rfl⟩
theorem d_method_3_360 : Dec method_3_code 360 (.castore) 1 361 := ⟨by decide +kernel, rfl⟩
theorem d_method_3_361 : Dec method_3_code 361 (.invokespecial 17) 3 364 := ⟨by decide +kernel, rfl⟩
theorem d_method_3_364 : Dec method_3_code 364 (.areturn) 1 365 := ⟨by decide +kernel, rfl⟩
set_option maxRecDepth 65536 in
set_option maxHeartbeats 40000000 in
theorem c_make8 (l : Launch) (Z : State) (a0 : Array Value) (hw : ∀ d ∈ tables_1, d.before a0 Z = true) (hE : EW Z a0 EL0) {n0 : Nat} {h0 : Heap} (hO : Old Z n0 h0) (hG : Gl Z) {a : Addr} {ka : ClassId} {cs : List Int32} (A : CArr Z h0 a ka cs) (hp : ∀ c ∈ cs, ¬ c < 0 ∧ ¬ (255 : Int32) < c) (hcl : cs.length ≤ 4000) (hn2 : 8 ≤ cs.length) :
    Ctr NW EL0 n0 Z [] l (⟨"com/example/serialis/serialis/marc/MarcFormatByLabelPinLaw", "make", "([CI)Ljava/lang/String;"⟩ : MethodName) method_3_code 2 (some (.object "java/lang/String")) ({ frames := 4, cells := 6, slots := 20, locals := 66 } : Room) #[.ref a, .int (Int32.ofNat 8)] h0 (RV fun w h => ∃ r, w = .ref r ∧ Ext h0 h ∧ Str Z h r (cs.take 8)) := by
  refine Ctr.body (plainFor_of_name pn_1) hE hO (fun x q => nomatch q) (L0 := #[.val (.ref a), .val (.int (Int32.ofNat 8))]) (fun m => by first | (simp [entryFrame, mkF, argsToLocals, Value.category, maxLocals]; done) | rfl) ?_
  intro p e s m below meth c T0 W0
  refine Go.iload_n W0.cx d_method_3_0 (v := (Int32.ofNat 8)) rfl ?_
  refine Go.ifne W0.cx d_method_3_1 (by decide) (q := 15) rfl (fun _ => ?_) (fun hh => (by first | exact absurd (by decide : ¬ Int32.ofNat 8 = 0) hh | exact absurd hh (by decide : ¬ Int32.ofNat 8 = 0)))
  refine Go.iload_n W0.cx d_method_3_15 (v := (Int32.ofNat 8)) rfl ?_
  refine Go.iconst W0.cx d_method_3_16 (z := (1 : Int32)) rfl ?_
  refine Go.icne W0.cx d_method_3_17 (by decide) (q := 37) rfl (fun _ => ?_) (fun hh => (by first | exact absurd (by decide : ¬ Int32.ofNat 8 = 1) hh | exact absurd hh (by decide : ¬ Int32.ofNat 8 = 1)))
  refine Go.iload_n W0.cx d_method_3_37 (v := (Int32.ofNat 8)) rfl ?_
  refine Go.iconst W0.cx d_method_3_38 (z := (2 : Int32)) rfl ?_
  refine Go.icne W0.cx d_method_3_39 (by decide) (q := 65) rfl (fun _ => ?_) (fun hh => (by first | exact absurd (by decide : ¬ Int32.ofNat 8 = 2) hh | exact absurd hh (by decide : ¬ Int32.ofNat 8 = 2)))
  refine Go.iload_n W0.cx d_method_3_65 (v := (Int32.ofNat 8)) rfl ?_
  refine Go.iconst W0.cx d_method_3_66 (z := (3 : Int32)) rfl ?_
  refine Go.icne W0.cx d_method_3_67 (by decide) (q := 99) rfl (fun _ => ?_) (fun hh => (by first | exact absurd (by decide : ¬ Int32.ofNat 8 = 3) hh | exact absurd hh (by decide : ¬ Int32.ofNat 8 = 3)))
  refine Go.iload_n W0.cx d_method_3_99 (v := (Int32.ofNat 8)) rfl ?_
  refine Go.iconst W0.cx d_method_3_100 (z := (4 : Int32)) rfl ?_
  refine Go.icne W0.cx d_method_3_101 (by decide) (q := 139) rfl (fun _ => ?_) (fun hh => (by first | exact absurd (by decide : ¬ Int32.ofNat 8 = 4) hh | exact absurd hh (by decide : ¬ Int32.ofNat 8 = 4)))
  refine Go.iload_n W0.cx d_method_3_139 (v := (Int32.ofNat 8)) rfl ?_
  refine Go.iconst W0.cx d_method_3_140 (z := (5 : Int32)) rfl ?_
  refine Go.icne W0.cx d_method_3_141 (by decide) (q := 185) rfl (fun _ => ?_) (fun hh => (by first | exact absurd (by decide : ¬ Int32.ofNat 8 = 5) hh | exact absurd hh (by decide : ¬ Int32.ofNat 8 = 5)))
  refine Go.iload_n W0.cx d_method_3_185 (v := (Int32.ofNat 8)) rfl ?_
  refine Go.bipush W0.cx d_method_3_186 (z := (6 : Int32)) rfl ?_
  refine Go.icne W0.cx d_method_3_188 (by decide) (q := 239) rfl (fun _ => ?_) (fun hh => (by first | exact absurd (by decide : ¬ Int32.ofNat 8 = 6) hh | exact absurd hh (by decide : ¬ Int32.ofNat 8 = 6)))
  refine Go.iload_n W0.cx d_method_3_239 (v := (Int32.ofNat 8)) rfl ?_
  refine Go.bipush W0.cx d_method_3_240 (z := (7 : Int32)) rfl ?_
  refine Go.icne W0.cx d_method_3_242 (by decide) (q := 301) rfl (fun _ => ?_) (fun hh => (by first | exact absurd (by decide : ¬ Int32.ofNat 8 = 7) hh | exact absurd hh (by decide : ¬ Int32.ofNat 8 = 7)))
  refine Go.new W0 d_method_3_301 (wd hw 52 rfl) (wd hw 2 rfl) (wd hw 1 rfl) (cells' := 1) (slots' := 4) rfl rfl (by decide) (by decide) ?_
  intro T1 h1 a1 g1 W1 E1 A1 D1
  have N1 : NewS Z h1 a1 := ⟨A1, D1 (Or.inr (wd hw 4 rfl)) (t := .array .byte) (by decide), D1 (Or.inr (wd hw 5 rfl)) (t := .byte) (by decide)⟩
  refine Go.dup W1.cx d_method_3_304 rfl ?_
  refine Go.bipush W1.cx d_method_3_305 (z := (8 : Int32)) rfl ?_
  refine Go.newarr W1 d_method_3_307 (wd hw 21 rfl) (z := (8 : Int32)) (cap := 8) (by decide) (by decide) (by decide) (cells' := 2) (slots' := 12) rfl rfl (by decide) (by decide) ?_
  intro T2 h2 a2 ka2 g2 W2 E2 A2
  have V2 : CArr Z h2 a2 ka2 [0, 0, 0, 0, 0, 0, 0, 0] := CArr.of_new A2 (k := 8) rfl rfl
  have X2 : Ext h0 h2 := ext_trans E1 E2
  have N2 := N1.ext E2
  have Aq1 := A.ext E1
  have Aq2 := Aq1.ext E2
  refine Go.dup W2.cx d_method_3_309 rfl ?_
  refine Go.iconst W2.cx d_method_3_310 (z := (0 : Int32)) rfl ?_
  refine Go.aload_n W2.cx d_method_3_311 (v := (.ref a)) rfl rfl ?_
  refine Go.iconst W2.cx d_method_3_312 (z := (0 : Int32)) rfl ?_
  refine Go.caload W2 0 d_method_3_313 Aq2 rfl (by omega) (by omega) (v := (cs.getD 0 0)) rfl ?_
  refine Go.castore W2 0 d_method_3_314 V2 (by simp) rfl (Nat.le_of_ble_eq_true rfl) (Nat.le_of_ble_eq_true rfl) (x' := (cs.getD 0 0)) (nar_ch (getD_ch hp (i := 0) (by omega))) ?_
  intro T3 h3 W3 K3 V3
  have V3 : CArr Z h3 a2 ka2 [(cs.getD 0 0), 0, 0, 0, 0, 0, 0, 0] := V3
  have N3 := N2.keep K3 (nin1 N1.1.lt g2)
  have X3 : Ext h0 h3 := ext_keep X2 K3 (all1 (by rw [g2]; exact E1.1))
  have Aq3 := Aq2.keep K3 (nin1 Aq1.lt g2)
  refine Go.dup W3.cx d_method_3_315 rfl ?_
  refine Go.iconst W3.cx d_method_3_316 (z := (1 : Int32)) rfl ?_
  refine Go.aload_n W3.cx d_method_3_317 (v := (.ref a)) rfl rfl ?_
  refine Go.iconst W3.cx d_method_3_318 (z := (1 : Int32)) rfl ?_
  refine Go.caload W3 1 d_method_3_319 Aq3 rfl (by omega) (by omega) (v := (cs.getD 1 0)) rfl ?_
  refine Go.castore W3 1 d_method_3_320 V3 (by simp) rfl (Nat.le_of_ble_eq_true rfl) (Nat.le_of_ble_eq_true rfl) (x' := (cs.getD 1 0)) (nar_ch (getD_ch hp (i := 1) (by omega))) ?_
  intro T4 h4 W4 K4 V4
  have V4 : CArr Z h4 a2 ka2 [(cs.getD 0 0), (cs.getD 1 0), 0, 0, 0, 0, 0, 0] := V4
  have N4 := N3.keep K4 (nin1 N1.1.lt g2)
  have X4 : Ext h0 h4 := ext_keep X3 K4 (all1 (by rw [g2]; exact E1.1))
  have Aq4 := Aq3.keep K4 (nin1 Aq1.lt g2)
  refine Go.dup W4.cx d_method_3_321 rfl ?_
  refine Go.iconst W4.cx d_method_3_322 (z := (2 : Int32)) rfl ?_
  refine Go.aload_n W4.cx d_method_3_323 (v := (.ref a)) rfl rfl ?_
  refine Go.iconst W4.cx d_method_3_324 (z := (2 : Int32)) rfl ?_
  refine Go.caload W4 2 d_method_3_325 Aq4 rfl (by omega) (by omega) (v := (cs.getD 2 0)) rfl ?_
  refine Go.castore W4 2 d_method_3_326 V4 (by simp) rfl (Nat.le_of_ble_eq_true rfl) (Nat.le_of_ble_eq_true rfl) (x' := (cs.getD 2 0)) (nar_ch (getD_ch hp (i := 2) (by omega))) ?_
  intro T5 h5 W5 K5 V5
  have V5 : CArr Z h5 a2 ka2 [(cs.getD 0 0), (cs.getD 1 0), (cs.getD 2 0), 0, 0, 0, 0, 0] := V5
  have N5 := N4.keep K5 (nin1 N1.1.lt g2)
  have X5 : Ext h0 h5 := ext_keep X4 K5 (all1 (by rw [g2]; exact E1.1))
  have Aq5 := Aq4.keep K5 (nin1 Aq1.lt g2)
  refine Go.dup W5.cx d_method_3_327 rfl ?_
  refine Go.iconst W5.cx d_method_3_328 (z := (3 : Int32)) rfl ?_
  refine Go.aload_n W5.cx d_method_3_329 (v := (.ref a)) rfl rfl ?_
  refine Go.iconst W5.cx d_method_3_330 (z := (3 : Int32)) rfl ?_
  refine Go.caload W5 3 d_method_3_331 Aq5 rfl (by omega) (by omega) (v := (cs.getD 3 0)) rfl ?_
  refine Go.castore W5 3 d_method_3_332 V5 (by simp) rfl (Nat.le_of_ble_eq_true rfl) (Nat.le_of_ble_eq_true rfl) (x' := (cs.getD 3 0)) (nar_ch (getD_ch hp (i := 3) (by omega))) ?_
  intro T6 h6 W6 K6 V6
  have V6 : CArr Z h6 a2 ka2 [(cs.getD 0 0), (cs.getD 1 0), (cs.getD 2 0), (cs.getD 3 0), 0, 0, 0, 0] := V6
  have N6 := N5.keep K6 (nin1 N1.1.lt g2)
  have X6 : Ext h0 h6 := ext_keep X5 K6 (all1 (by rw [g2]; exact E1.1))
  have Aq6 := Aq5.keep K6 (nin1 Aq1.lt g2)
  refine Go.dup W6.cx d_method_3_333 rfl ?_
  refine Go.iconst W6.cx d_method_3_334 (z := (4 : Int32)) rfl ?_
  refine Go.aload_n W6.cx d_method_3_335 (v := (.ref a)) rfl rfl ?_
  refine Go.iconst W6.cx d_method_3_336 (z := (4 : Int32)) rfl ?_
  refine Go.caload W6 4 d_method_3_337 Aq6 rfl (by omega) (by omega) (v := (cs.getD 4 0)) rfl ?_
  refine Go.castore W6 4 d_method_3_338 V6 (by simp) rfl (Nat.le_of_ble_eq_true rfl) (Nat.le_of_ble_eq_true rfl) (x' := (cs.getD 4 0)) (nar_ch (getD_ch hp (i := 4) (by omega))) ?_
  intro T7 h7 W7 K7 V7
  have V7 : CArr Z h7 a2 ka2 [(cs.getD 0 0), (cs.getD 1 0), (cs.getD 2 0), (cs.getD 3 0), (cs.getD 4 0), 0, 0, 0] := V7
  have N7 := N6.keep K7 (nin1 N1.1.lt g2)
  have X7 : Ext h0 h7 := ext_keep X6 K7 (all1 (by rw [g2]; exact E1.1))
  have Aq7 := Aq6.keep K7 (nin1 Aq1.lt g2)
  refine Go.dup W7.cx d_method_3_339 rfl ?_
  refine Go.iconst W7.cx d_method_3_340 (z := (5 : Int32)) rfl ?_
  refine Go.aload_n W7.cx d_method_3_341 (v := (.ref a)) rfl rfl ?_
  refine Go.iconst W7.cx d_method_3_342 (z := (5 : Int32)) rfl ?_
  refine Go.caload W7 5 d_method_3_343 Aq7 rfl (by omega) (by omega) (v := (cs.getD 5 0)) rfl ?_
  refine Go.castore W7 5 d_method_3_344 V7 (by simp) rfl (Nat.le_of_ble_eq_true rfl) (Nat.le_of_ble_eq_true rfl) (x' := (cs.getD 5 0)) (nar_ch (getD_ch hp (i := 5) (by omega))) ?_
  intro T8 h8 W8 K8 V8
  have V8 : CArr Z h8 a2 ka2 [(cs.getD 0 0), (cs.getD 1 0), (cs.getD 2 0), (cs.getD 3 0), (cs.getD 4 0), (cs.getD 5 0), 0, 0] := V8
  have N8 := N7.keep K8 (nin1 N1.1.lt g2)
  have X8 : Ext h0 h8 := ext_keep X7 K8 (all1 (by rw [g2]; exact E1.1))
  have Aq8 := Aq7.keep K8 (nin1 Aq1.lt g2)
  refine Go.dup W8.cx d_method_3_345 rfl ?_
  refine Go.bipush W8.cx d_method_3_346 (z := (6 : Int32)) rfl ?_
  refine Go.aload_n W8.cx d_method_3_348 (v := (.ref a)) rfl rfl ?_
  refine Go.bipush W8.cx d_method_3_349 (z := (6 : Int32)) rfl ?_
  refine Go.caload W8 6 d_method_3_351 Aq8 rfl (by omega) (by omega) (v := (cs.getD 6 0)) rfl ?_
  refine Go.castore W8 6 d_method_3_352 V8 (by simp) rfl (Nat.le_of_ble_eq_true rfl) (Nat.le_of_ble_eq_true rfl) (x' := (cs.getD 6 0)) (nar_ch (getD_ch hp (i := 6) (by omega))) ?_
  intro T9 h9 W9 K9 V9
  have V9 : CArr Z h9 a2 ka2 [(cs.getD 0 0), (cs.getD 1 0), (cs.getD 2 0), (cs.getD 3 0), (cs.getD 4 0), (cs.getD 5 0), (cs.getD 6 0), 0] := V9
  have N9 := N8.keep K9 (nin1 N1.1.lt g2)
  have X9 : Ext h0 h9 := ext_keep X8 K9 (all1 (by rw [g2]; exact E1.1))
  have Aq9 := Aq8.keep K9 (nin1 Aq1.lt g2)
  refine Go.dup W9.cx d_method_3_353 rfl ?_
  refine Go.bipush W9.cx d_method_3_354 (z := (7 : Int32)) rfl ?_
  refine Go.aload_n W9.cx d_method_3_356 (v := (.ref a)) rfl rfl ?_
  refine Go.bipush W9.cx d_method_3_357 (z := (7 : Int32)) rfl ?_
  refine Go.caload W9 7 d_method_3_359 Aq9 rfl (by omega) (by omega) (v := (cs.getD 7 0)) rfl ?_
  refine Go.castore W9 7 d_method_3_360 V9 (by simp) rfl (Nat.le_of_ble_eq_true rfl) (Nat.le_of_ble_eq_true rfl) (x' := (cs.getD 7 0)) (nar_ch (getD_ch hp (i := 7) (by omega))) ?_
  intro T10 h10 W10 K10 V10
  have V10 : CArr Z h10 a2 ka2 [(cs.getD 0 0), (cs.getD 1 0), (cs.getD 2 0), (cs.getD 3 0), (cs.getD 4 0), (cs.getD 5 0), (cs.getD 6 0), (cs.getD 7 0)] := V10
  have N10 := N9.keep K10 (nin1 N1.1.lt g2)
  have X10 : Ext h0 h10 := ext_keep X9 K10 (all1 (by rw [g2]; exact E1.1))
  have Aq10 := Aq9.keep K10 (nin1 Aq1.lt g2)
  have hp11 : ∀ c ∈ [(cs.getD 0 0), (cs.getD 1 0), (cs.getD 2 0), (cs.getD 3 0), (cs.getD 4 0), (cs.getD 5 0), (cs.getD 6 0), (cs.getD 7 0)], ¬ c < 0 ∧ ¬ (255 : Int32) < c := all_cons (getD_ch hp (i := 0) (by omega)) (all_cons (getD_ch hp (i := 1) (by omega)) (all_cons (getD_ch hp (i := 2) (by omega)) (all_cons (getD_ch hp (i := 3) (by omega)) (all_cons (getD_ch hp (i := 4) (by omega)) (all_cons (getD_ch hp (i := 5) (by omega)) (all_cons (getD_ch hp (i := 6) (by omega)) (all_cons (getD_ch hp (i := 7) (by omega)) (all_nil))))))))
  refine Go.invi W10 (newStr (wt := 1) W10.ew hw hG N10 V10 (W10.mine (by simp)) (by simp) hp11 (Nat.le_of_ble_eq_true rfl) (Nat.le_of_ble_eq_true rfl) (by decide) (by decide)) d_method_3_361 rfl (wd hw 53 rfl) (wd hw 54 rfl) (wd hw 55 rfl) (by decide) pd_3 rfl rfl (rest := [(.ref a1)]) rfl (Nat.le_of_eq rfl) (cells' := 3) (slots' := 20) rfl rfl (by decide) (by decide) ?_
  rintro T12 h12 W12 z12 ⟨K12, S12⟩
  have X12 : Ext h0 h12 := ext_keep X10 K12 (all1 (Nat.le_of_eq g1.symm))
  exact Go.aret W12 d_method_3_364 rfl rfl rfl (by decide) (by decide) ⟨_, rfl, a1, rfl, X12, by rw [tk8 hn2]; exact S12⟩
theorem c_make (l : Launch) (Z : State) (a0 : Array Value) (hw : ∀ d ∈ tables_1, d.before a0 Z = true) (hE : EW Z a0 EL0) {n0 : Nat} {h0 : Heap} (hO : Old Z n0 h0) (hG : Gl Z) {a : Addr} {ka : ClassId} {cs : List Int32} (A : CArr Z h0 a ka cs) (hp : ∀ c ∈ cs, ¬ c < 0 ∧ ¬ (255 : Int32) < c) (hcl : cs.length ≤ 4000) {n : Nat} (hn : n ≤ 8) (hn2 : n ≤ cs.length) :
    Ctr NW EL0 n0 Z [] l (⟨"com/example/serialis/serialis/marc/MarcFormatByLabelPinLaw", "make", "([CI)Ljava/lang/String;"⟩ : MethodName) method_3_code 2 (some (.object "java/lang/String")) ({ frames := 4, cells := 6, slots := 20, locals := 66 } : Room) #[.ref a, .int (Int32.ofNat n)] h0 (RV fun w h => ∃ r, w = .ref r ∧ Ext h0 h ∧ Str Z h r (cs.take n)) := by
  rcases (show n = 0 ∨ n = 1 ∨ n = 2 ∨ n = 3 ∨ n = 4 ∨ n = 5 ∨ n = 6 ∨ n = 7 ∨ n = 8 by omega) with rfl | rfl | rfl | rfl | rfl | rfl | rfl | rfl | rfl
  · exact c_make0 l Z a0 hw hE hO hG A hp hcl hn2
  · exact c_make1 l Z a0 hw hE hO hG A hp hcl hn2
  · exact c_make2 l Z a0 hw hE hO hG A hp hcl hn2
  · exact c_make3 l Z a0 hw hE hO hG A hp hcl hn2
  · exact c_make4 l Z a0 hw hE hO hG A hp hcl hn2
  · exact c_make5 l Z a0 hw hE hO hG A hp hcl hn2
  · exact c_make6 l Z a0 hw hE hO hG A hp hcl hn2
  · exact c_make7 l Z a0 hw hE hO hG A hp hcl hn2
  · exact c_make8 l Z a0 hw hE hO hG A hp hcl hn2
theorem pn_2 : plainName "com/example/serialis/serialis/marc/MarcFormat" = true := by first | (simp [plainName, overriddenIn]; done) | decide +kernel
theorem d_prog_43_method_1_0 : Dec prog_43_method_1_code 0 (.getstatic 10) 3 3 := ⟨by decide +kernel, rfl⟩
theorem d_prog_43_method_1_3 : Dec prog_43_method_1_code 3 (.invokevirtual 14) 3 6 := ⟨by decide +kernel, rfl⟩
theorem d_prog_43_method_1_6 : Dec prog_43_method_1_code 6 (.checkcast 15) 3 9 := ⟨by decide +kernel, rfl⟩
theorem d_prog_43_method_1_9 : Dec prog_43_method_1_code 9 (.areturn) 1 10 := ⟨by decide +kernel, rfl⟩
set_option maxRecDepth 65536 in
set_option maxHeartbeats 40000000 in
theorem c_values (l : Launch) (Z : State) (a0 : Array Value) (hw : ∀ d ∈ tables_1, d.before a0 Z = true) (hE : EW Z a0 EL0) {n0 : Nat} {h0 : Heap} (hO : Old Z n0 h0) {m0 m1 : Addr} (HM : Mf Z m0 m1) :
    Ctr NW EL0 n0 Z [] l (⟨"com/example/serialis/serialis/marc/MarcFormat", "values", "()[Lcom/example/serialis/serialis/marc/MarcFormat;"⟩ : MethodName) prog_43_method_1_code 0 (some (.array (.object "com/example/serialis/serialis/marc/MarcFormat"))) ({ frames := 1, cells := 1, slots := 2, locals := 14 } : Room) #[] h0 (RV fun w h => ∃ b, w = .ref b ∧ Ext h0 h ∧ OAr Z h b "com/example/serialis/serialis/marc/MarcFormat" "[Lcom/example/serialis/serialis/marc/MarcFormat;" [.ref m0, .ref m1]) := by
  refine Ctr.body (plainFor_of_name pn_2) hE hO (fun x q => nomatch q) (L0 := #[]) (fun m => by first | (simp [entryFrame, mkF, argsToLocals, Value.category, maxLocals]; done) | rfl) ?_
  intro p e s m below meth c T0 W0
  obtain ⟨vA, l0, l1, em, HV, OV, -⟩ := id HM
  refine Go.gets W0 d_prog_43_method_1_0 (wd hw 71 rfl) Via.refl HV ?_
  intro T1 W1
  refine Go.cloneN W1 d_prog_43_method_1_3 (wd hw 73 rfl) (wd hw 74 rfl) (wd hw 78 rfl) (wd hw 76 rfl) (wd hw 77 rfl) (wd hw 79 rfl) (OV.ext hO.2) rfl (by decide) (wt := 0) (Nat.le_of_eq rfl) (by decide) (cells' := 1) (slots' := 2) rfl rfl (by decide) (by decide) ?_
  intro T2 h2 a2 g2 W2 E2 O2
  refine Go.cast W2 d_prog_43_method_1_6 (wd hw 83 rfl) (Ins.self O2.exa) ?_
  intro T3 W3
  exact Go.aret W3 d_prog_43_method_1_9 rfl rfl rfl (by decide) (by decide) ⟨_, rfl, _, rfl, E2, O2⟩
theorem pn_3 : plainName "java/util/Objects" = true := by first | (simp [plainName, overriddenIn]; done) | decide +kernel
theorem d_jdk_31_method_10_0 : Dec jdk_31_method_10_code 0 (.aload_n 0) 1 1 := ⟨by decide +kernel, rfl⟩
theorem d_jdk_31_method_10_1 : Dec jdk_31_method_10_code 1 (.ifnonnull 11) 3 4 := ⟨by decide +kernel, rfl⟩
theorem d_jdk_31_method_10_12 : Dec jdk_31_method_10_code 12 (.aload_n 0) 1 13 := ⟨by decide +kernel, rfl⟩
theorem d_jdk_31_method_10_13 : Dec jdk_31_method_10_code 13 (.areturn) 1 14 := ⟨by decide +kernel, rfl⟩
set_option maxRecDepth 65536 in
set_option maxHeartbeats 40000000 in
theorem c_rnn (l : Launch) (Z : State) (a0 : Array Value) (hw : ∀ d ∈ tables_1, d.before a0 Z = true) (hE : EW Z a0 EL0) {n0 : Nat} {h0 : Heap} (hO : Old Z n0 h0) (a : Addr) :
    Ctr NW EL0 n0 Z [] l (⟨"java/util/Objects", "requireNonNull", "(Ljava/lang/Object;)Ljava/lang/Object;"⟩ : MethodName) jdk_31_method_10_code 1 (some (.object "java/lang/Object")) ({ frames := 0, cells := 0, slots := 0, locals := 0 } : Room) #[.ref a] h0 (RV fun w h => w = .ref a ∧ h0 = h) := by
  refine Ctr.body (plainFor_of_name pn_3) hE hO (fun x q => nomatch q) (L0 := #[.val (.ref a)]) (fun m => by first | (simp [entryFrame, mkF, argsToLocals, Value.category, maxLocals]; done) | rfl) ?_
  intro p e s m below meth c T0 W0
  refine Go.aload_n W0.cx d_jdk_31_method_10_0 (v := (.ref a)) rfl rfl ?_
  refine Go.ifnonnull_y W0.cx d_jdk_31_method_10_1 (by decide) (q := 12) rfl ?_
  refine Go.aload_n W0.cx d_jdk_31_method_10_12 (v := (.ref a)) rfl rfl ?_
  exact Go.aret W0 d_jdk_31_method_10_13 rfl rfl rfl (by decide) (by decide) ⟨_, rfl, rfl, rfl⟩
theorem pn_4 : plainName "java/util/Optional" = true := by first | (simp [plainName, overriddenIn]; done) | decide +kernel
theorem d_jdk_32_method_2_0 : Dec jdk_32_method_2_code 0 (.aload_n 0) 1 1 := ⟨by decide +kernel, rfl⟩
theorem d_jdk_32_method_2_1 : Dec jdk_32_method_2_code 1 (.invokespecial 7) 3 4 := ⟨by decide +kernel, rfl⟩
theorem d_jdk_32_method_2_4 : Dec jdk_32_method_2_code 4 (.aload_n 0) 1 5 := ⟨by decide +kernel, rfl⟩
theorem d_jdk_32_method_2_5 : Dec jdk_32_method_2_code 5 (.aload_n 1) 1 6 := ⟨by decide +kernel, rfl⟩
theorem d_jdk_32_method_2_6 : Dec jdk_32_method_2_code 6 (.putfield 13) 3 9 := ⟨by decide +kernel, rfl⟩
theorem d_jdk_32_method_2_9 : Dec jdk_32_method_2_code 9 (.return_) 1 10 := ⟨by decide +kernel, rfl⟩
set_option maxRecDepth 65536 in
set_option maxHeartbeats 40000000 in
theorem c_oi (l : Launch) (Z : State) (a0 : Array Value) (hw : ∀ d ∈ tables_1, d.before a0 Z = true) (hE : EW Z a0 EL0) {n0 : Nat} {h0 : Heap} (hO : Old Z n0 h0) {o v : Addr} (ho : n0 ≤ o) (E_o : Exa Z h0 o "java/util/Optional") (F_o : Fld Z h0 o "java/util/Optional" "value" "Ljava/lang/Object;" .null) :
    Ctr NW EL0 n0 Z [o] l (⟨"java/util/Optional", "<init>", "(Ljava/lang/Object;)V"⟩ : MethodName) jdk_32_method_2_code 2 none ({ frames := 1, cells := 0, slots := 0, locals := 12 } : Room) #[.ref o, .ref v] h0 (RN fun h => Keep h0 h [o] ∧ Exa Z h o "java/util/Optional" ∧ Fld Z h o "java/util/Optional" "value" "Ljava/lang/Object;" (.ref v)) := by
  refine Ctr.body (plainFor_of_name pn_4) hE hO (fun z q => by cases List.mem_singleton.mp q; exact ⟨ho, E_o.lt⟩) (L0 := #[.val (.ref o), .val (.ref v)]) (fun m => by first | (simp [entryFrame, mkF, argsToLocals, Value.category, maxLocals]; done) | rfl) ?_
  intro p e s m below meth c T0 W0
  refine Go.aload_n W0.cx d_jdk_32_method_2_0 (v := (.ref o)) rfl rfl ?_
  refine Go.initObj W0 d_jdk_32_method_2_1 (wd hw 133 rfl) (wd hw 61 rfl) (wd hw 62 rfl) rfl (by decide) (wt := 0) rfl (by decide) ?_
  intro T1 W1
  refine Go.aload_n W1.cx d_jdk_32_method_2_4 (v := (.ref o)) rfl rfl ?_
  refine Go.aload_n W1.cx d_jdk_32_method_2_5 (v := (.ref v)) rfl rfl ?_
  refine Go.putf W1 d_jdk_32_method_2_6 (wd hw 108 rfl) Via.refl F_o E_o (Or.inr ⟨(wd hw 109 rfl), rfl, rfl⟩) (wd hw 124 rfl) (t := (.object "java/lang/Object")) (by decide) (v' := (.ref v)) rfl rfl (by simp) ?_
  intro T2 h2 W2 R2
  exact Go.vret W2 d_jdk_32_method_2_9 (by decide) (by decide) ⟨rfl, (Keep.refl h0 [o]).wr R2 (Or.inl (by simp)), E_o.wr R2, F_o.same R2⟩
theorem d_jdk_32_method_3_0 : Dec jdk_32_method_3_code 0 (.new 2) 3 3 := ⟨by decide +kernel, rfl⟩
theorem d_jdk_32_method_3_3 : Dec jdk_32_method_3_code 3 (.dup) 1 4 := ⟨by decide +kernel, rfl⟩
theorem d_jdk_32_method_3_4 : Dec jdk_32_method_3_code 4 (.aload_n 0) 1 5 := ⟨by decide +kernel, rfl⟩
theorem d_jdk_32_method_3_5 : Dec jdk_32_method_3_code 5 (.invokestatic 17) 3 8 := ⟨by decide +kernel, rfl⟩
theorem pd_4 : parseMethodDescriptor "(Ljava/lang/Object;)Ljava/lang/Object;" = some ⟨[(.object "java/lang/Object")], some (.object "java/lang/Object")⟩ := by decide +kernel
theorem d_jdk_32_method_3_8 : Dec jdk_32_method_3_code 8 (.invokespecial 23) 3 11 := ⟨by decide +kernel, rfl⟩
theorem pd_5 : parseMethodDescriptor "(Ljava/lang/Object;)V" = some ⟨[(.object "java/lang/Object")], none⟩ := by decide +kernel
theorem d_jdk_32_method_3_11 : Dec jdk_32_method_3_code 11 (.areturn) 1 12 := ⟨by decide +kernel, rfl⟩
set_option maxRecDepth 65536 in
set_option maxHeartbeats 40000000 in
theorem c_of (l : Launch) (Z : State) (a0 : Array Value) (hw : ∀ d ∈ tables_1, d.before a0 Z = true) (hE : EW Z a0 EL0) {n0 : Nat} {h0 : Heap} (hO : Old Z n0 h0) (v : Addr) :
    Ctr NW EL0 n0 Z [] l (⟨"java/util/Optional", "of", "(Ljava/lang/Object;)Ljava/util/Optional;"⟩ : MethodName) jdk_32_method_3_code 1 (some (.object "java/util/Optional")) ({ frames := 2, cells := 1, slots := 1, locals := 26 } : Room) #[.ref v] h0 (RV fun w h => ∃ o, w = .ref o ∧ Ext h0 h ∧ Exa Z h o "java/util/Optional" ∧ Fld Z h o "java/util/Optional" "value" "Ljava/lang/Object;" (.ref v)) := by
  refine Ctr.body (plainFor_of_name pn_4) hE hO (fun x q => nomatch q) (L0 := #[.val (.ref v)]) (fun m => by first | (simp [entryFrame, mkF, argsToLocals, Value.category, maxLocals]; done) | rfl) ?_
  intro p e s m below meth c T0 W0
  refine Go.new W0 d_jdk_32_method_3_0 (wd hw 123 rfl) (wd hw 124 rfl) (wd hw 98 rfl) (cells' := 1) (slots' := 1) rfl rfl (by decide) (by decide) ?_
  intro T1 h1 a1 g1 W1 E1 A1 D1
  have F1 := D1 (Or.inr (wd hw 109 rfl)) (t := .object "java/lang/Object") (by decide)
  refine Go.dup W1.cx d_jdk_32_method_3_3 rfl ?_
  refine Go.aload_n W1.cx d_jdk_32_method_3_4 (v := (.ref v)) rfl rfl ?_
  refine Go.invs1 W1 (Ctr.call (wt := 2) (c_rnn l Z a0 hw hE W1.old v) W1.ew (wd hw 128 rfl) (wd hw 127 rfl) (by simp) (by decide) (by decide)) d_jdk_32_method_3_5 (wd hw 125 rfl) (wd hw 126 rfl) (wd hw 127 rfl) (wd hw 128 rfl) (by decide) pd_4 rfl rfl (rest := [(.ref a1), (.ref a1)]) rfl (Nat.le_of_eq rfl) (cells' := 1) (slots' := 1) rfl rfl (by decide) (by decide) ?_
  rintro T2 h2 _ W2 z2 ⟨rfl, e2⟩
  subst e2
  refine Go.invi W2 (Ctr.call (wt := 1) (c_oi l Z a0 hw hE W2.old (W2.mine (by simp)).1 A1 F1) W2.ew (wd hw 132 rfl) (wd hw 98 rfl) (by simp) (by decide) (by decide)) d_jdk_32_method_3_8 rfl (wd hw 129 rfl) (wd hw 130 rfl) (wd hw 132 rfl) (by decide) pd_5 rfl rfl (rest := [(.ref a1)]) rfl (Nat.le_of_eq rfl) (cells' := 1) (slots' := 1) rfl rfl (by decide) (by decide) ?_
  rintro T3 h3 W3 z3 ⟨K3, X3, P3⟩
  exact Go.aret W3 d_jdk_32_method_3_11 rfl rfl rfl (by decide) (by decide) ⟨_, rfl, _, rfl, ext_keep E1 K3 (all1 (Nat.le_of_eq g1.symm)), X3, P3⟩
theorem d_jdk_32_method_1_0 : Dec jdk_32_method_1_code 0 (.getstatic 1) 3 3 := ⟨by decide +kernel, rfl⟩
theorem d_jdk_32_method_1_3 : Dec jdk_32_method_1_code 3 (.astore_n 0) 1 4 := ⟨by decide +kernel, rfl⟩
theorem d_jdk_32_method_1_4 : Dec jdk_32_method_1_code 4 (.aload_n 0) 1 5 := ⟨by decide +kernel, rfl⟩
theorem d_jdk_32_method_1_5 : Dec jdk_32_method_1_code 5 (.areturn) 1 6 := ⟨by decide +kernel, rfl⟩
set_option maxRecDepth 65536 in
set_option maxHeartbeats 40000000 in
theorem c_empty (l : Launch) (Z : State) (a0 : Array Value) (hw : ∀ d ∈ tables_1, d.before a0 Z = true) (hE : EW Z a0 EL0) {n0 : Nat} {h0 : Heap} (hO : Old Z n0 h0) {m0 m1 : Addr} (HM : Mf Z m0 m1) :
    Ctr NW EL0 n0 Z [] l (⟨"java/util/Optional", "empty", "()Ljava/util/Optional;"⟩ : MethodName) jdk_32_method_1_code 1 (some (.object "java/util/Optional")) ({ frames := 0, cells := 0, slots := 0, locals := 0 } : Room) #[] h0 (RV fun w h => ∃ o, w = .ref o ∧ h0 = h ∧ Exa Z h0 o "java/util/Optional" ∧ Fld Z h0 o "java/util/Optional" "value" "Ljava/lang/Object;" .null) := by
  refine Ctr.body (plainFor_of_name pn_4) hE hO (fun x q => nomatch q) (L0 := #[.unset]) (fun m => by first | (simp [entryFrame, mkF, argsToLocals, Value.category, maxLocals]; done) | rfl) ?_
  intro p e s m below meth c T0 W0
  obtain ⟨vA, l0, l1, em, -, -, -, -, -, -, SE, XE, FE, -, -⟩ := id HM
  refine Go.gets W0 d_jdk_32_method_1_0 (wd hw 100 rfl) Via.refl SE ?_
  intro T1 W1
  refine Go.astore_n W1.cx d_jdk_32_method_1_3 (L' := #[.val (.ref em)]) rfl rfl ?_
  refine Go.aload_n W1.cx d_jdk_32_method_1_4 (v := (.ref em)) rfl rfl ?_
  exact Go.aret W1 d_jdk_32_method_1_5 rfl rfl rfl (by decide) (by decide) ⟨_, rfl, _, rfl, rfl, XE.ext hO.2, FE.ext hO.2⟩
theorem d_jdk_32_method_6_0 : Dec jdk_32_method_6_code 0 (.aload_n 0) 1 1 := ⟨by decide +kernel, rfl⟩
theorem d_jdk_32_method_6_1 : Dec jdk_32_method_6_code 1 (.getfield 13) 3 4 := ⟨by decide +kernel, rfl⟩
theorem d_jdk_32_method_6_4 : Dec jdk_32_method_6_code 4 (.ifnull 7) 3 7 := ⟨by decide +kernel, rfl⟩
theorem d_jdk_32_method_6_7 : Dec jdk_32_method_6_code 7 (.iconst 1) 1 8 := ⟨by decide +kernel, rfl⟩
theorem d_jdk_32_method_6_8 : Dec jdk_32_method_6_code 8 (.goto 4) 3 11 := ⟨by decide +kernel, rfl⟩
theorem d_jdk_32_method_6_12 : Dec jdk_32_method_6_code 12 (.ireturn) 1 13 := ⟨by decide +kernel, rfl⟩
set_option maxRecDepth 65536 in
set_option maxHeartbeats 40000000 in
theorem c_isp1 (l : Launch) (Z : State) (a0 : Array Value) (hw : ∀ d ∈ tables_1, d.before a0 Z = true) (hE : EW Z a0 EL0) {n0 : Nat} {h0 : Heap} (hO : Old Z n0 h0) {o v : Addr} (F_o : Fld Z h0 o "java/util/Optional" "value" "Ljava/lang/Object;" (.ref v)) :
    Ctr NW EL0 n0 Z [] l (⟨"java/util/Optional", "isPresent", "()Z"⟩ : MethodName) jdk_32_method_6_code 1 (some .boolean) ({ frames := 0, cells := 0, slots := 0, locals := 0 } : Room) #[.ref o] h0 (RV fun w h => w = .int 1 ∧ h0 = h) := by
  refine Ctr.body (plainFor_of_name pn_4) hE hO (fun x q => nomatch q) (L0 := #[.val (.ref o)]) (fun m => by first | (simp [entryFrame, mkF, argsToLocals, Value.category, maxLocals]; done) | rfl) ?_
  intro p e s m below meth c T0 W0
  refine Go.aload_n W0.cx d_jdk_32_method_6_0 (v := (.ref o)) rfl rfl ?_
  refine Go.getf W0 d_jdk_32_method_6_1 (wd hw 108 rfl) Via.refl F_o ?_
  intro T1 W1
  refine Go.ifnull_n W1.cx d_jdk_32_method_6_4 ?_
  refine Go.iconst W1.cx d_jdk_32_method_6_7 (z := (1 : Int32)) rfl ?_
  refine Go.goto W1.cx d_jdk_32_method_6_8 (by decide) (q := 12) rfl ?_
  exact Go.iret W1 d_jdk_32_method_6_12 (by simp) rfl (by decide) (by decide) ⟨_, rfl, rfl, rfl⟩
theorem d_jdk_32_method_6_11 : Dec jdk_32_method_6_code 11 (.iconst 0) 1 12 := ⟨by decide +kernel, rfl⟩
set_option maxRecDepth 65536 in
set_option maxHeartbeats 40000000 in
theorem c_isp0 (l : Launch) (Z : State) (a0 : Array Value) (hw : ∀ d ∈ tables_1, d.before a0 Z = true) (hE : EW Z a0 EL0) {n0 : Nat} {h0 : Heap} (hO : Old Z n0 h0) {o v : Addr} (F_o : Fld Z h0 o "java/util/Optional" "value" "Ljava/lang/Object;" .null) :
    Ctr NW EL0 n0 Z [] l (⟨"java/util/Optional", "isPresent", "()Z"⟩ : MethodName) jdk_32_method_6_code 1 (some .boolean) ({ frames := 0, cells := 0, slots := 0, locals := 0 } : Room) #[.ref o] h0 (RV fun w h => w = .int 0 ∧ h0 = h) := by
  refine Ctr.body (plainFor_of_name pn_4) hE hO (fun x q => nomatch q) (L0 := #[.val (.ref o)]) (fun m => by first | (simp [entryFrame, mkF, argsToLocals, Value.category, maxLocals]; done) | rfl) ?_
  intro p e s m below meth c T0 W0
  refine Go.aload_n W0.cx d_jdk_32_method_6_0 (v := (.ref o)) rfl rfl ?_
  refine Go.getf W0 d_jdk_32_method_6_1 (wd hw 108 rfl) Via.refl F_o ?_
  intro T1 W1
  refine Go.ifnull_y W1.cx d_jdk_32_method_6_4 (by decide) (q := 11) rfl ?_
  refine Go.iconst W1.cx d_jdk_32_method_6_11 (z := (0 : Int32)) rfl ?_
  exact Go.iret W1 d_jdk_32_method_6_12 (by simp) rfl (by decide) (by decide) ⟨_, rfl, rfl, rfl⟩
theorem d_jdk_32_method_5_0 : Dec jdk_32_method_5_code 0 (.aload_n 0) 1 1 := ⟨by decide +kernel, rfl⟩
theorem d_jdk_32_method_5_1 : Dec jdk_32_method_5_code 1 (.getfield 13) 3 4 := ⟨by decide +kernel, rfl⟩
theorem d_jdk_32_method_5_4 : Dec jdk_32_method_5_code 4 (.ifnonnull 13) 3 7 := ⟨by decide +kernel, rfl⟩
theorem d_jdk_32_method_5_17 : Dec jdk_32_method_5_code 17 (.aload_n 0) 1 18 := ⟨by decide +kernel, rfl⟩
theorem d_jdk_32_method_5_18 : Dec jdk_32_method_5_code 18 (.getfield 13) 3 21 := ⟨by decide +kernel, rfl⟩
theorem d_jdk_32_method_5_21 : Dec jdk_32_method_5_code 21 (.areturn) 1 22 := ⟨by decide +kernel, rfl⟩
set_option maxRecDepth 65536 in
set_option maxHeartbeats 40000000 in
theorem c_get (l : Launch) (Z : State) (a0 : Array Value) (hw : ∀ d ∈ tables_1, d.before a0 Z = true) (hE : EW Z a0 EL0) {n0 : Nat} {h0 : Heap} (hO : Old Z n0 h0) {o v : Addr} (F_o : Fld Z h0 o "java/util/Optional" "value" "Ljava/lang/Object;" (.ref v)) :
    Ctr NW EL0 n0 Z [] l (⟨"java/util/Optional", "get", "()Ljava/lang/Object;"⟩ : MethodName) jdk_32_method_5_code 1 (some (.object "java/lang/Object")) ({ frames := 0, cells := 0, slots := 0, locals := 0 } : Room) #[.ref o] h0 (RV fun w h => w = .ref v ∧ h0 = h) := by
  refine Ctr.body (plainFor_of_name pn_4) hE hO (fun x q => nomatch q) (L0 := #[.val (.ref o)]) (fun m => by first | (simp [entryFrame, mkF, argsToLocals, Value.category, maxLocals]; done) | rfl) ?_
  intro p e s m below meth c T0 W0
  refine Go.aload_n W0.cx d_jdk_32_method_5_0 (v := (.ref o)) rfl rfl ?_
  refine Go.getf W0 d_jdk_32_method_5_1 (wd hw 108 rfl) Via.refl F_o ?_
  intro T1 W1
  refine Go.ifnonnull_y W1.cx d_jdk_32_method_5_4 (by decide) (q := 17) rfl ?_
  refine Go.aload_n W1.cx d_jdk_32_method_5_17 (v := (.ref o)) rfl rfl ?_
  refine Go.getf W1 d_jdk_32_method_5_18 (wd hw 108 rfl) Via.refl F_o ?_
  intro T2 W2
  exact Go.aret W2 d_jdk_32_method_5_21 rfl rfl rfl (by decide) (by decide) ⟨_, rfl, rfl, rfl⟩
theorem d_prog_43_method_7_0 : Dec prog_43_method_7_code 0 (.invokestatic 81) 3 3 := ⟨by decide +kernel, rfl⟩
theorem pd_6 : parseMethodDescriptor "()[Lcom/example/serialis/serialis/marc/MarcFormat;" = some ⟨[], some (.array (.object "com/example/serialis/serialis/marc/MarcFormat"))⟩ := by decide +kernel
theorem d_prog_43_method_7_3 : Dec prog_43_method_7_code 3 (.astore_n 1) 1 4 := ⟨by decide +kernel, rfl⟩
theorem d_prog_43_method_7_4 : Dec prog_43_method_7_code 4 (.aload_n 1) 1 5 := ⟨by decide +kernel, rfl⟩
theorem d_prog_43_method_7_5 : Dec prog_43_method_7_code 5 (.arraylength) 1 6 := ⟨by decide +kernel, rfl⟩
theorem d_prog_43_method_7_6 : Dec prog_43_method_7_code 6 (.istore_n 2) 1 7 := ⟨by decide +kernel, rfl⟩
theorem d_prog_43_method_7_7 : Dec prog_43_method_7_code 7 (.iconst 0) 1 8 := ⟨by decide +kernel, rfl⟩
theorem d_prog_43_method_7_8 : Dec prog_43_method_7_code 8 (.istore_n 3) 1 9 := ⟨by decide +kernel, rfl⟩
theorem d_prog_43_method_7_9 : Dec prog_43_method_7_code 9 (.iload_n 3) 1 10 := ⟨by decide +kernel, rfl⟩
theorem d_prog_43_method_7_10 : Dec prog_43_method_7_code 10 (.iload_n 2) 1 11 := ⟨by decide +kernel, rfl⟩
theorem d_prog_43_method_7_11 : Dec prog_43_method_7_code 11 (.if_icmp .ge 32) 3 14 := ⟨by decide +kernel, rfl⟩
theorem d_prog_43_method_7_14 : Dec prog_43_method_7_code 14 (.aload_n 1) 1 15 := ⟨by decide +kernel, rfl⟩
theorem d_prog_43_method_7_15 : Dec prog_43_method_7_code 15 (.iload_n 3) 1 16 := ⟨by decide +kernel, rfl⟩
theorem d_prog_43_method_7_16 : Dec prog_43_method_7_code 16 (.aaload) 1 17 := ⟨by decide +kernel, rfl⟩
theorem d_prog_43_method_7_17 : Dec prog_43_method_7_code 17 (.astore 4) 2 19 := ⟨by decide +kernel, rfl⟩
theorem d_prog_43_method_7_19 : Dec prog_43_method_7_code 19 (.aload 4) 2 21 := ⟨by decide +kernel, rfl⟩
theorem d_prog_43_method_7_21 : Dec prog_43_method_7_code 21 (.getfield 29) 3 24 := ⟨by decide +kernel, rfl⟩
theorem d_prog_43_method_7_24 : Dec prog_43_method_7_code 24 (.aload_n 0) 1 25 := ⟨by decide +kernel, rfl⟩
theorem d_prog_43_method_7_25 : Dec prog_43_method_7_code 25 (.invokevirtual 52) 3 28 := ⟨by decide +kernel, rfl⟩
theorem pd_7 : parseMethodDescriptor "(Ljava/lang/Object;)Z" = some ⟨[(.object "java/lang/Object")], some .boolean⟩ := by decide +kernel
theorem d_prog_43_method_7_28 : Dec prog_43_method_7_code 28 (.ifCond .eq 9) 3 31 := ⟨by decide +kernel, rfl⟩
theorem d_prog_43_method_7_31 : Dec prog_43_method_7_code 31 (.aload 4) 2 33 := ⟨by decide +kernel, rfl⟩
theorem d_prog_43_method_7_33 : Dec prog_43_method_7_code 33 (.invokestatic 85) 3 36 := ⟨by decide +kernel, rfl⟩
theorem pd_8 : parseMethodDescriptor "(Ljava/lang/Object;)Ljava/util/Optional;" = some ⟨[(.object "java/lang/Object")], some (.object "java/util/Optional")⟩ := by decide +kernel
theorem d_prog_43_method_7_36 : Dec prog_43_method_7_code 36 (.areturn) 1 37 := ⟨by decide +kernel, rfl⟩
theorem d_prog_43_method_7_37 : Dec prog_43_method_7_code 37 (.iinc 3 1) 3 40 := ⟨by decide +kernel, rfl⟩
theorem d_prog_43_method_7_40 : Dec prog_43_method_7_code 40 (.goto (-31)) 3 43 := ⟨by decide +kernel, rfl⟩
theorem d_prog_43_method_7_43 : Dec prog_43_method_7_code 43 (.invokestatic 77) 3 46 := ⟨by decide +kernel, rfl⟩
theorem pd_9 : parseMethodDescriptor "()Ljava/util/Optional;" = some ⟨[], some (.object "java/util/Optional")⟩ := by decide +kernel
theorem d_prog_43_method_7_46 : Dec prog_43_method_7_code 46 (.areturn) 1 47 := ⟨by decide +kernel, rfl⟩
set_option maxRecDepth 65536 in
set_option maxHeartbeats 40000000 in
theorem c_by (l : Launch) (Z : State) (a0 : Array Value) (hw : ∀ d ∈ tables_1, d.before a0 Z = true) (hE : EW Z a0 EL0) {n0 : Nat} {h0 : Heap} (hO : Old Z n0 h0) (hG : Gl Z) {a : Addr} {cs : List Int32} (S : Str Z h0 a cs) {m0 m1 : Addr} (HM : Mf Z m0 m1) :
    Ctr NW EL0 n0 Z [] l (⟨"com/example/serialis/serialis/marc/MarcFormat", "byLabel", "(Ljava/lang/String;)Ljava/util/Optional;"⟩ : MethodName) prog_43_method_7_code 5 (some (.object "java/util/Optional")) ({ frames := 3, cells := 2, slots := 3, locals := 38 } : Room) #[.ref a] h0 (RV fun w h => ∃ o v, w = .ref o ∧ Ext h0 h ∧ Exa Z h o "java/util/Optional" ∧ Fld Z h o "java/util/Optional" "value" "Ljava/lang/Object;" v ∧ ((cs = MARC ∧ v = .ref m0) ∨ (¬ cs = MARC ∧ cs = UNI ∧ v = .ref m1) ∨ (¬ cs = MARC ∧ ¬ cs = UNI ∧ v = .null))) := by
  refine Ctr.body (plainFor_of_name pn_2) hE hO (fun x q => nomatch q) (L0 := #[.val (.ref a), .unset, .unset, .unset, .unset]) (fun m => by first | (simp [entryFrame, mkF, argsToLocals, Value.category, maxLocals]; done) | rfl) ?_
  intro p e s m below meth c T0 W0
  obtain ⟨vA, l0, l1, em, HV, OV, F0, F1, S0, S1, -⟩ := id HM
  refine Go.invs1 W0 (Ctr.call (wt := 0) (c_values l Z a0 hw hE W0.old HM) W0.ew (wd hw 70 rfl) (wd hw 66 rfl) (by simp) (by decide) (by decide)) d_prog_43_method_7_0 (wd hw 68 rfl) (wd hw 69 rfl) (wd hw 66 rfl) (wd hw 70 rfl) (by decide) pd_6 rfl rfl (rest := []) rfl (Nat.le_of_eq rfl) (cells' := 1) (slots' := 2) rfl rfl (by decide) (by decide) ?_
  rintro T1 h1 _ W1 z1 ⟨b1, rfl, E1, O1⟩
  have XX := ext_trans hO.2 E1
  have Sa := S.ext E1
  refine Go.astore_n W1.cx d_prog_43_method_7_3 (L' := #[.val (.ref a), .val (.ref b1), .unset, .unset, .unset]) rfl rfl ?_
  refine Go.aload_n W1.cx d_prog_43_method_7_4 (v := (.ref b1)) rfl rfl ?_
  refine Go.alenN W1 d_prog_43_method_7_5 O1 (z := (2 : Int32)) rfl ?_
  refine Go.istore_n W1.cx d_prog_43_method_7_6 (L' := #[.val (.ref a), .val (.ref b1), .val (.int (2 : Int32)), .unset, .unset]) rfl ?_
  refine Go.iconst W1.cx d_prog_43_method_7_7 (z := (0 : Int32)) rfl ?_
  refine Go.istore_n W1.cx d_prog_43_method_7_8 (L' := #[.val (.ref a), .val (.ref b1), .val (.int (2 : Int32)), .val (.int (0 : Int32)), .unset]) rfl ?_
  refine Go.iload_n W1.cx d_prog_43_method_7_9 (v := (0 : Int32)) rfl ?_
  refine Go.iload_n W1.cx d_prog_43_method_7_10 (v := (2 : Int32)) rfl ?_
  refine Go.icge W1.cx d_prog_43_method_7_11 (by decide) (q := 43) rfl (fun hh => (by first | exact absurd (by decide : (0 : Int32) < 2) hh | exact absurd hh (by decide : (0 : Int32) < 2))) (fun _ => ?_)
  refine Go.aload_n W1.cx d_prog_43_method_7_14 (v := (.ref b1)) rfl rfl ?_
  refine Go.iload_n W1.cx d_prog_43_method_7_15 (v := (0 : Int32)) rfl ?_
  refine Go.aaload W1 0 d_prog_43_method_7_16 O1 rfl (by decide) (v := .ref m0) rfl ?_
  refine Go.astore W1.cx d_prog_43_method_7_17 (L' := #[.val (.ref a), .val (.ref b1), .val (.int (2 : Int32)), .val (.int (0 : Int32)), .val (.ref m0)]) rfl rfl ?_
  refine Go.aload W1.cx d_prog_43_method_7_19 (v := (.ref m0)) rfl rfl ?_
  refine Go.getf W1 d_prog_43_method_7_21 (wd hw 85 rfl) Via.refl (F0.ext XX) ?_
  intro T2 W2
  refine Go.aload_n W2.cx d_prog_43_method_7_24 (v := (.ref a)) rfl rfl ?_
  have Sl0 := S0.ext XX
  refine Go.invv1 W2 (strEq (wt := 0) W2.ew hw hG Sl0 Sa (by decide) (by decide)) d_prog_43_method_7_25 (wd hw 87 rfl) (wd hw 88 rfl) (wd hw 90 rfl) (wd hw 89 rfl) (by decide) Sl0.exa pd_7 rfl rfl (rest := []) rfl (Nat.le_of_eq rfl) (cells' := 1) (slots' := 2) rfl rfl (by decide) (by decide) ?_
  rintro T3 h3 _ W3 z3 ⟨rfl, e3⟩
  subst e3
  by_cases q0 : cs = MARC
  · refine Go.ifeq W3.cx d_prog_43_method_7_28 (by decide) (q := 37) rfl (fun hh => (by first | exact absurd (show ¬ (if MARC = cs then (1 : Int32) else 0) = 0 by rw [if_pos q0.symm]; decide) hh | exact absurd hh (show ¬ (if MARC = cs then (1 : Int32) else 0) = 0 by rw [if_pos q0.symm]; decide))) (fun _ => ?_)
    refine Go.aload W3.cx d_prog_43_method_7_31 (v := (.ref m0)) rfl rfl ?_
    refine Go.invs1 W3 (Ctr.call (wt := 0) (c_of l Z a0 hw hE W3.old m0) W3.ew (wd hw 122 rfl) (wd hw 98 rfl) (by simp) (by decide) (by decide)) d_prog_43_method_7_33 (wd hw 120 rfl) (wd hw 121 rfl) (wd hw 98 rfl) (wd hw 122 rfl) (by decide) pd_8 rfl rfl (rest := []) rfl (Nat.le_of_eq rfl) (cells' := 2) (slots' := 3) rfl rfl (by decide) (by decide) ?_
    rintro T4 h4 _ W4 z4 ⟨o4, rfl, E4, X4, P4⟩
    exact Go.aret W4 d_prog_43_method_7_36 rfl rfl rfl (by decide) (by decide) ⟨_, rfl, _, _, rfl, ext_trans E1 E4, X4, P4, Or.inl ⟨q0, rfl⟩⟩
  · refine Go.ifeq W3.cx d_prog_43_method_7_28 (by decide) (q := 37) rfl (fun _ => ?_) (fun hh => (by first | exact absurd (show (if MARC = cs then (1 : Int32) else 0) = 0 from if_neg (fun z => q0 z.symm)) hh | exact absurd hh (show (if MARC = cs then (1 : Int32) else 0) = 0 from if_neg (fun z => q0 z.symm))))
    refine Go.iinc W3.cx d_prog_43_method_7_37 (z := (1 : Int32)) (L' := #[.val (.ref a), .val (.ref b1), .val (.int (2 : Int32)), .val (.int (1 : Int32)), .val (.ref m0)]) rfl (rfl) rfl ?_
    refine Go.goto W3.cx d_prog_43_method_7_40 (by decide) (q := 9) rfl ?_
    refine Go.iload_n W3.cx d_prog_43_method_7_9 (v := (1 : Int32)) rfl ?_
    refine Go.iload_n W3.cx d_prog_43_method_7_10 (v := (2 : Int32)) rfl ?_
    refine Go.icge W3.cx d_prog_43_method_7_11 (by decide) (q := 43) rfl (fun hh => (by first | exact absurd (by decide : (1 : Int32) < 2) hh | exact absurd hh (by decide : (1 : Int32) < 2))) (fun _ => ?_)
    refine Go.aload_n W3.cx d_prog_43_method_7_14 (v := (.ref b1)) rfl rfl ?_
    refine Go.iload_n W3.cx d_prog_43_method_7_15 (v := (1 : Int32)) rfl ?_
    refine Go.aaload W3 1 d_prog_43_method_7_16 O1 rfl (by decide) (v := .ref m1) rfl ?_
    refine Go.astore W3.cx d_prog_43_method_7_17 (L' := #[.val (.ref a), .val (.ref b1), .val (.int (2 : Int32)), .val (.int (1 : Int32)), .val (.ref m1)]) rfl rfl ?_
    refine Go.aload W3.cx d_prog_43_method_7_19 (v := (.ref m1)) rfl rfl ?_
    refine Go.getf W3 d_prog_43_method_7_21 (wd hw 85 rfl) Via.refl (F1.ext XX) ?_
    intro T5 W5
    refine Go.aload_n W5.cx d_prog_43_method_7_24 (v := (.ref a)) rfl rfl ?_
    have Sl1 := S1.ext XX
    refine Go.invv1 W5 (strEq (wt := 0) W5.ew hw hG Sl1 Sa (by decide) (by decide)) d_prog_43_method_7_25 (wd hw 87 rfl) (wd hw 88 rfl) (wd hw 90 rfl) (wd hw 89 rfl) (by decide) Sl1.exa pd_7 rfl rfl (rest := []) rfl (Nat.le_of_eq rfl) (cells' := 1) (slots' := 2) rfl rfl (by decide) (by decide) ?_
    rintro T6 h6 _ W6 z6 ⟨rfl, e6⟩
    subst e6
    by_cases q1 : cs = UNI
    · refine Go.ifeq W6.cx d_prog_43_method_7_28 (by decide) (q := 37) rfl (fun hh => (by first | exact absurd (show ¬ (if UNI = cs then (1 : Int32) else 0) = 0 by rw [if_pos q1.symm]; decide) hh | exact absurd hh (show ¬ (if UNI = cs then (1 : Int32) else 0) = 0 by rw [if_pos q1.symm]; decide))) (fun _ => ?_)
      refine Go.aload W6.cx d_prog_43_method_7_31 (v := (.ref m1)) rfl rfl ?_
      refine Go.invs1 W6 (Ctr.call (wt := 0) (c_of l Z a0 hw hE W6.old m1) W6.ew (wd hw 122 rfl) (wd hw 98 rfl) (by simp) (by decide) (by decide)) d_prog_43_method_7_33 (wd hw 120 rfl) (wd hw 121 rfl) (wd hw 98 rfl) (wd hw 122 rfl) (by decide) pd_8 rfl rfl (rest := []) rfl (Nat.le_of_eq rfl) (cells' := 2) (slots' := 3) rfl rfl (by decide) (by decide) ?_
      rintro T7 h7 _ W7 z7 ⟨o7, rfl, E7, X7, P7⟩
      exact Go.aret W7 d_prog_43_method_7_36 rfl rfl rfl (by decide) (by decide) ⟨_, rfl, _, _, rfl, ext_trans E1 E7, X7, P7, Or.inr (Or.inl ⟨q0, q1, rfl⟩)⟩
    · refine Go.ifeq W6.cx d_prog_43_method_7_28 (by decide) (q := 37) rfl (fun _ => ?_) (fun hh => (by first | exact absurd (show (if UNI = cs then (1 : Int32) else 0) = 0 from if_neg (fun z => q1 z.symm)) hh | exact absurd hh (show (if UNI = cs then (1 : Int32) else 0) = 0 from if_neg (fun z => q1 z.symm))))
      refine Go.iinc W6.cx d_prog_43_method_7_37 (z := (2 : Int32)) (L' := #[.val (.ref a), .val (.ref b1), .val (.int (2 : Int32)), .val (.int (2 : Int32)), .val (.ref m1)]) rfl (rfl) rfl ?_
      refine Go.goto W6.cx d_prog_43_method_7_40 (by decide) (q := 9) rfl ?_
      refine Go.iload_n W6.cx d_prog_43_method_7_9 (v := (2 : Int32)) rfl ?_
      refine Go.iload_n W6.cx d_prog_43_method_7_10 (v := (2 : Int32)) rfl ?_
      refine Go.icge W6.cx d_prog_43_method_7_11 (by decide) (q := 43) rfl (fun _ => ?_) (fun hh => (by first | exact absurd (by decide : ¬ (2 : Int32) < 2) hh | exact absurd hh (by decide : ¬ (2 : Int32) < 2)))
      refine Go.invs1 W6 (Ctr.call (wt := 0) (c_empty l Z a0 hw hE W6.old HM) W6.ew (wd hw 99 rfl) (wd hw 98 rfl) (by simp) (by decide) (by decide)) d_prog_43_method_7_43 (wd hw 96 rfl) (wd hw 97 rfl) (wd hw 98 rfl) (wd hw 99 rfl) (by decide) pd_9 rfl rfl (rest := []) rfl (Nat.le_of_eq rfl) (cells' := 1) (slots' := 2) rfl rfl (by decide) (by decide) ?_
      rintro T8 h8 _ W8 z8 ⟨o8, rfl, e8, X8, P8⟩
      subst e8
      exact Go.aret W8 d_prog_43_method_7_46 rfl rfl rfl (by decide) (by decide) ⟨_, rfl, _, _, rfl, E1, X8, P8, Or.inr (Or.inr ⟨q0, q1, rfl⟩)⟩
theorem d_code_0 : Dec code 0 (.iload_n 0) 1 1 := ⟨by decide +kernel, rfl⟩
theorem d_code_1 : Dec code 1 (.iconst 1) 1 2 := ⟨by decide +kernel, rfl⟩
theorem d_code_2 : Dec code 2 (.iand) 1 3 := ⟨by decide +kernel, rfl⟩
theorem d_code_13 : Dec code 13 (.astore 5) 2 15 := ⟨by decide +kernel, rfl⟩
theorem d_code_15 : Dec code 15 (.aload 5) 2 17 := ⟨by decide +kernel, rfl⟩
theorem d_code_17 : Dec code 17 (.invokevirtual 7) 3 20 := ⟨by decide +kernel, rfl⟩
theorem d_code_20 : Dec code 20 (.istore 6) 2 22 := ⟨by decide +kernel, rfl⟩
theorem d_code_22 : Dec code 22 (.iload_n 3) 1 23 := ⟨by decide +kernel, rfl⟩
theorem d_code_23 : Dec code 23 (.sipush 255) 3 26 := ⟨by decide +kernel, rfl⟩
theorem d_code_26 : Dec code 26 (.iand) 1 27 := ⟨by decide +kernel, rfl⟩
theorem d_code_27 : Dec code 27 (.i2c) 1 28 := ⟨by decide +kernel, rfl⟩
theorem d_code_28 : Dec code 28 (.istore 7) 2 30 := ⟨by decide +kernel, rfl⟩
theorem d_code_30 : Dec code 30 (.bipush 8) 2 32 := ⟨by decide +kernel, rfl⟩
theorem d_code_32 : Dec code 32 (.newarray .char) 2 34 := ⟨by decide +kernel, rfl⟩
theorem d_code_34 : Dec code 34 (.astore 8) 2 36 := ⟨by decide +kernel, rfl⟩
theorem d_code_36 : Dec code 36 (.aload 8) 2 38 := ⟨by decide +kernel, rfl⟩
theorem d_code_38 : Dec code 38 (.iconst 0) 1 39 := ⟨by decide +kernel, rfl⟩
theorem d_code_39 : Dec code 39 (.aload 5) 2 41 := ⟨by decide +kernel, rfl⟩
theorem d_code_41 : Dec code 41 (.iconst 0) 1 42 := ⟨by decide +kernel, rfl⟩
theorem d_code_42 : Dec code 42 (.iload 7) 2 44 := ⟨by decide +kernel, rfl⟩
theorem d_code_44 : Dec code 44 (.invokestatic 24) 3 47 := ⟨by decide +kernel, rfl⟩
theorem pd_10 : parseMethodDescriptor "(Ljava/lang/String;IC)C" = some ⟨[(.object "java/lang/String"), .int, .char], some .char⟩ := by decide +kernel
theorem d_code_47 : Dec code 47 (.castore) 1 48 := ⟨by decide +kernel, rfl⟩
theorem d_code_48 : Dec code 48 (.aload 8) 2 50 := ⟨by decide +kernel, rfl⟩
theorem d_code_50 : Dec code 50 (.iconst 1) 1 51 := ⟨by decide +kernel, rfl⟩
theorem d_code_51 : Dec code 51 (.aload 5) 2 53 := ⟨by decide +kernel, rfl⟩
theorem d_code_53 : Dec code 53 (.iconst 1) 1 54 := ⟨by decide +kernel, rfl⟩
theorem d_code_54 : Dec code 54 (.iload 7) 2 56 := ⟨by decide +kernel, rfl⟩
theorem d_code_56 : Dec code 56 (.invokestatic 24) 3 59 := ⟨by decide +kernel, rfl⟩
theorem d_code_59 : Dec code 59 (.castore) 1 60 := ⟨by decide +kernel, rfl⟩
theorem d_code_60 : Dec code 60 (.aload 8) 2 62 := ⟨by decide +kernel, rfl⟩
theorem d_code_62 : Dec code 62 (.iconst 2) 1 63 := ⟨by decide +kernel, rfl⟩
theorem d_code_63 : Dec code 63 (.aload 5) 2 65 := ⟨by decide +kernel, rfl⟩
theorem d_code_65 : Dec code 65 (.iconst 2) 1 66 := ⟨by decide +kernel, rfl⟩
theorem d_code_66 : Dec code 66 (.iload 7) 2 68 := ⟨by decide +kernel, rfl⟩
theorem d_code_68 : Dec code 68 (.invokestatic 24) 3 71 := ⟨by decide +kernel, rfl⟩
theorem d_code_71 : Dec code 71 (.castore) 1 72 := ⟨by decide +kernel, rfl⟩
theorem d_code_72 : Dec code 72 (.aload 8) 2 74 := ⟨by decide +kernel, rfl⟩
theorem d_code_74 : Dec code 74 (.iconst 3) 1 75 := ⟨by decide +kernel, rfl⟩
theorem d_code_75 : Dec code 75 (.aload 5) 2 77 := ⟨by decide +kernel, rfl⟩
theorem d_code_77 : Dec code 77 (.iconst 3) 1 78 := ⟨by decide +kernel, rfl⟩
theorem d_code_78 : Dec code 78 (.iload 7) 2 80 := ⟨by decide +kernel, rfl⟩
theorem d_code_80 : Dec code 80 (.invokestatic 24) 3 83 := ⟨by decide +kernel, rfl⟩
theorem d_code_83 : Dec code 83 (.castore) 1 84 := ⟨by decide +kernel, rfl⟩
theorem d_code_84 : Dec code 84 (.aload 8) 2 86 := ⟨by decide +kernel, rfl⟩
theorem d_code_86 : Dec code 86 (.iconst 4) 1 87 := ⟨by decide +kernel, rfl⟩
theorem d_code_87 : Dec code 87 (.aload 5) 2 89 := ⟨by decide +kernel, rfl⟩
theorem d_code_89 : Dec code 89 (.iconst 4) 1 90 := ⟨by decide +kernel, rfl⟩
theorem d_code_90 : Dec code 90 (.iload 7) 2 92 := ⟨by decide +kernel, rfl⟩
theorem d_code_92 : Dec code 92 (.invokestatic 24) 3 95 := ⟨by decide +kernel, rfl⟩
theorem d_code_95 : Dec code 95 (.castore) 1 96 := ⟨by decide +kernel, rfl⟩
theorem d_code_96 : Dec code 96 (.aload 8) 2 98 := ⟨by decide +kernel, rfl⟩
theorem d_code_98 : Dec code 98 (.iconst 5) 1 99 := ⟨by decide +kernel, rfl⟩
theorem d_code_99 : Dec code 99 (.aload 5) 2 101 := ⟨by decide +kernel, rfl⟩
theorem d_code_101 : Dec code 101 (.iconst 5) 1 102 := ⟨by decide +kernel, rfl⟩
theorem d_code_102 : Dec code 102 (.iload 7) 2 104 := ⟨by decide +kernel, rfl⟩
theorem d_code_104 : Dec code 104 (.invokestatic 24) 3 107 := ⟨by decide +kernel, rfl⟩
theorem d_code_107 : Dec code 107 (.castore) 1 108 := ⟨by decide +kernel, rfl⟩
theorem d_code_108 : Dec code 108 (.aload 8) 2 110 := ⟨by decide +kernel, rfl⟩
theorem d_code_110 : Dec code 110 (.bipush 6) 2 112 := ⟨by decide +kernel, rfl⟩
theorem d_code_112 : Dec code 112 (.aload 5) 2 114 := ⟨by decide +kernel, rfl⟩
theorem d_code_114 : Dec code 114 (.bipush 6) 2 116 := ⟨by decide +kernel, rfl⟩
theorem d_code_116 : Dec code 116 (.iload 7) 2 118 := ⟨by decide +kernel, rfl⟩
theorem d_code_118 : Dec code 118 (.invokestatic 24) 3 121 := ⟨by decide +kernel, rfl⟩
theorem d_code_121 : Dec code 121 (.castore) 1 122 := ⟨by decide +kernel, rfl⟩
theorem d_code_122 : Dec code 122 (.aload 8) 2 124 := ⟨by decide +kernel, rfl⟩
theorem d_code_124 : Dec code 124 (.bipush 7) 2 126 := ⟨by decide +kernel, rfl⟩
theorem d_code_126 : Dec code 126 (.aload 5) 2 128 := ⟨by decide +kernel, rfl⟩
theorem d_code_128 : Dec code 128 (.bipush 7) 2 130 := ⟨by decide +kernel, rfl⟩
theorem d_code_130 : Dec code 130 (.iload 7) 2 132 := ⟨by decide +kernel, rfl⟩
theorem d_code_132 : Dec code 132 (.invokestatic 24) 3 135 := ⟨by decide +kernel, rfl⟩
theorem d_code_135 : Dec code 135 (.castore) 1 136 := ⟨by decide +kernel, rfl⟩
theorem d_code_136 : Dec code 136 (.iload_n 1) 1 137 := ⟨by decide +kernel, rfl⟩
theorem d_code_137 : Dec code 137 (.ldc 30) 2 139 := ⟨by decide +kernel, rfl⟩
theorem d_code_139 : Dec code 139 (.iand) 1 140 := ⟨by decide +kernel, rfl⟩
theorem d_code_140 : Dec code 140 (.iconst 4) 1 141 := ⟨by decide +kernel, rfl⟩
theorem d_code_141 : Dec code 141 (.irem) 1 142 := ⟨by decide +kernel, rfl⟩
theorem d_code_142 : Dec code 142 (.istore 9) 2 144 := ⟨by decide +kernel, rfl⟩
theorem d_code_144 : Dec code 144 (.iload 6) 2 146 := ⟨by decide +kernel, rfl⟩
theorem d_code_146 : Dec code 146 (.istore 10) 2 148 := ⟨by decide +kernel, rfl⟩
theorem d_code_148 : Dec code 148 (.iload 9) 2 150 := ⟨by decide +kernel, rfl⟩
theorem d_code_150 : Dec code 150 (.iconst 1) 1 151 := ⟨by decide +kernel, rfl⟩
theorem d_code_151 : Dec code 151 (.if_icmp .ne 18) 3 154 := ⟨by decide +kernel, rfl⟩
theorem d_code_216 : Dec code 216 (.aload 8) 2 218 := ⟨by decide +kernel, rfl⟩
theorem d_code_218 : Dec code 218 (.iload 10) 2 220 := ⟨by decide +kernel, rfl⟩
theorem d_code_220 : Dec code 220 (.invokestatic 31) 3 223 := ⟨by decide +kernel, rfl⟩
theorem pd_11 : parseMethodDescriptor "([CI)Ljava/lang/String;" = some ⟨[(.array .char), .int], some (.object "java/lang/String")⟩ := by decide +kernel
theorem d_code_223 : Dec code 223 (.astore 11) 2 225 := ⟨by decide +kernel, rfl⟩
theorem d_code_225 : Dec code 225 (.aload 11) 2 227 := ⟨by decide +kernel, rfl⟩
theorem d_code_227 : Dec code 227 (.invokestatic 35) 3 230 := ⟨by decide +kernel, rfl⟩
theorem pd_12 : parseMethodDescriptor "(Ljava/lang/String;)Ljava/util/Optional;" = some ⟨[(.object "java/lang/String")], some (.object "java/util/Optional")⟩ := by decide +kernel
theorem d_code_230 : Dec code 230 (.astore 12) 2 232 := ⟨by decide +kernel, rfl⟩
theorem d_code_232 : Dec code 232 (.aload 11) 2 234 := ⟨by decide +kernel, rfl⟩
theorem d_code_234 : Dec code 234 (.ldc 20) 2 236 := ⟨by decide +kernel, rfl⟩
theorem d_code_236 : Dec code 236 (.invokevirtual 41) 3 239 := ⟨by decide +kernel, rfl⟩
theorem d_code_239 : Dec code 239 (.istore 13) 2 241 := ⟨by decide +kernel, rfl⟩
theorem d_code_241 : Dec code 241 (.aload 11) 2 243 := ⟨by decide +kernel, rfl⟩
theorem d_code_243 : Dec code 243 (.ldc 22) 2 245 := ⟨by decide +kernel, rfl⟩
theorem d_code_245 : Dec code 245 (.invokevirtual 41) 3 248 := ⟨by decide +kernel, rfl⟩
theorem d_code_248 : Dec code 248 (.istore 14) 2 250 := ⟨by decide +kernel, rfl⟩
theorem d_code_250 : Dec code 250 (.iload 13) 2 252 := ⟨by decide +kernel, rfl⟩
theorem d_code_252 : Dec code 252 (.ifCond .ne 22) 3 255 := ⟨by decide +kernel, rfl⟩
theorem d_code_274 : Dec code 274 (.aload 12) 2 276 := ⟨by decide +kernel, rfl⟩
theorem d_code_276 : Dec code 276 (.invokevirtual 45) 3 279 := ⟨by decide +kernel, rfl⟩
theorem pd_13 : parseMethodDescriptor "()Z" = some ⟨[], some .boolean⟩ := by decide +kernel
theorem d_code_279 : Dec code 279 (.ifCond .ne 5) 3 282 := ⟨by decide +kernel, rfl⟩
theorem d_code_284 : Dec code 284 (.aload 12) 2 286 := ⟨by decide +kernel, rfl⟩
theorem d_code_286 : Dec code 286 (.invokevirtual 51) 3 289 := ⟨by decide +kernel, rfl⟩
theorem pd_14 : parseMethodDescriptor "()Ljava/lang/Object;" = some ⟨[], some (.object "java/lang/Object")⟩ := by decide +kernel
theorem d_code_289 : Dec code 289 (.iload 13) 2 291 := ⟨by decide +kernel, rfl⟩
theorem d_code_291 : Dec code 291 (.ifCond .eq 9) 3 294 := ⟨by decide +kernel, rfl⟩
theorem d_code_294 : Dec code 294 (.getstatic 55) 3 297 := ⟨by decide +kernel, rfl⟩
theorem d_code_297 : Dec code 297 (.goto 6) 3 300 := ⟨by decide +kernel, rfl⟩
theorem d_code_303 : Dec code 303 (.if_acmp .ne 7) 3 306 := ⟨by decide +kernel, rfl⟩
theorem d_code_306 : Dec code 306 (.iconst 1) 1 307 := ⟨by decide +kernel, rfl⟩
theorem d_code_307 : Dec code 307 (.goto 4) 3 310 := ⟨by decide +kernel, rfl⟩
theorem d_code_311 : Dec code 311 (.ireturn) 1 312 := ⟨by decide +kernel, rfl⟩
theorem d_code_255 : Dec code 255 (.iload 14) 2 257 := ⟨by decide +kernel, rfl⟩
theorem d_code_257 : Dec code 257 (.ifCond .ne 17) 3 260 := ⟨by decide +kernel, rfl⟩
theorem d_code_300 : Dec code 300 (.getstatic 59) 3 303 := ⟨by decide +kernel, rfl⟩
theorem d_code_260 : Dec code 260 (.aload 12) 2 262 := ⟨by decide +kernel, rfl⟩
theorem d_code_262 : Dec code 262 (.invokevirtual 45) 3 265 := ⟨by decide +kernel, rfl⟩
theorem d_code_265 : Dec code 265 (.ifCond .ne 7) 3 268 := ⟨by decide +kernel, rfl⟩
theorem d_code_268 : Dec code 268 (.iconst 1) 1 269 := ⟨by decide +kernel, rfl⟩
theorem d_code_269 : Dec code 269 (.goto 4) 3 272 := ⟨by decide +kernel, rfl⟩
theorem d_code_273 : Dec code 273 (.ireturn) 1 274 := ⟨by decide +kernel, rfl⟩
theorem d_code_169 : Dec code 169 (.iload 9) 2 171 := ⟨by decide +kernel, rfl⟩
theorem d_code_171 : Dec code 171 (.iconst 2) 1 172 := ⟨by decide +kernel, rfl⟩
theorem d_code_172 : Dec code 172 (.if_icmp .ne 16) 3 175 := ⟨by decide +kernel, rfl⟩
theorem d_code_188 : Dec code 188 (.iload 9) 2 190 := ⟨by decide +kernel, rfl⟩
theorem d_code_190 : Dec code 190 (.iconst 3) 1 191 := ⟨by decide +kernel, rfl⟩
theorem d_code_191 : Dec code 191 (.if_icmp .ne 25) 3 194 := ⟨by decide +kernel, rfl⟩
theorem d_code_154 : Dec code 154 (.aload 8) 2 156 := ⟨by decide +kernel, rfl⟩
theorem d_code_156 : Dec code 156 (.iload_n 2) 1 157 := ⟨by decide +kernel, rfl⟩
theorem d_code_157 : Dec code 157 (.ldc 30) 2 159 := ⟨by decide +kernel, rfl⟩
theorem d_code_159 : Dec code 159 (.iand) 1 160 := ⟨by decide +kernel, rfl⟩
theorem d_code_160 : Dec code 160 (.iload 6) 2 162 := ⟨by decide +kernel, rfl⟩
theorem d_code_162 : Dec code 162 (.irem) 1 163 := ⟨by decide +kernel, rfl⟩
theorem d_code_163 : Dec code 163 (.iload 7) 2 165 := ⟨by decide +kernel, rfl⟩
theorem d_code_165 : Dec code 165 (.castore) 1 166 := ⟨by decide +kernel, rfl⟩
theorem d_code_166 : Dec code 166 (.goto 50) 3 169 := ⟨by decide +kernel, rfl⟩
theorem d_code_175 : Dec code 175 (.iload 4) 2 177 := ⟨by decide +kernel, rfl⟩
theorem d_code_177 : Dec code 177 (.ldc 30) 2 179 := ⟨by decide +kernel, rfl⟩
theorem d_code_179 : Dec code 179 (.iand) 1 180 := ⟨by decide +kernel, rfl⟩
theorem d_code_180 : Dec code 180 (.bipush 9) 2 182 := ⟨by decide +kernel, rfl⟩
theorem d_code_182 : Dec code 182 (.irem) 1 183 := ⟨by decide +kernel, rfl⟩
theorem d_code_183 : Dec code 183 (.istore 10) 2 185 := ⟨by decide +kernel, rfl⟩
theorem d_code_185 : Dec code 185 (.goto 31) 3 188 := ⟨by decide +kernel, rfl⟩
theorem d_code_194 : Dec code 194 (.iload 4) 2 196 := ⟨by decide +kernel, rfl⟩
theorem d_code_196 : Dec code 196 (.ldc 30) 2 198 := ⟨by decide +kernel, rfl⟩
theorem d_code_198 : Dec code 198 (.iand) 1 199 := ⟨by decide +kernel, rfl⟩
theorem d_code_199 : Dec code 199 (.bipush 9) 2 201 := ⟨by decide +kernel, rfl⟩
theorem d_code_201 : Dec code 201 (.irem) 1 202 := ⟨by decide +kernel, rfl⟩
theorem d_code_202 : Dec code 202 (.istore 10) 2 204 := ⟨by decide +kernel, rfl⟩
theorem d_code_204 : Dec code 204 (.aload 8) 2 206 := ⟨by decide +kernel, rfl⟩
theorem d_code_206 : Dec code 206 (.iload_n 2) 1 207 := ⟨by decide +kernel, rfl⟩
theorem d_code_207 : Dec code 207 (.ldc 30) 2 209 := ⟨by decide +kernel, rfl⟩
theorem d_code_209 : Dec code 209 (.iand) 1 210 := ⟨by decide +kernel, rfl⟩
theorem d_code_210 : Dec code 210 (.bipush 8) 2 212 := ⟨by decide +kernel, rfl⟩
theorem d_code_212 : Dec code 212 (.irem) 1 213 := ⟨by decide +kernel, rfl⟩
theorem d_code_213 : Dec code 213 (.iload 7) 2 215 := ⟨by decide +kernel, rfl⟩
theorem d_code_215 : Dec code 215 (.castore) 1 216 := ⟨by decide +kernel, rfl⟩
theorem d_code_3 : Dec code 3 (.ifCond .ne 8) 3 6 := ⟨by decide +kernel, rfl⟩
theorem d_code_11 : Dec code 11 (.ldc 22) 2 13 := ⟨by decide +kernel, rfl⟩
theorem d_code_6 : Dec code 6 (.ldc 20) 2 8 := ⟨by decide +kernel, rfl⟩
theorem d_code_8 : Dec code 8 (.goto 5) 3 11 := ⟨by decide +kernel, rfl⟩
set_option maxRecDepth 65536 in
set_option maxHeartbeats 40000000 in
theorem c_law (l : Launch) (Z : State) (a0 : Array Value) (hw : ∀ d ∈ tables_1, d.before a0 Z = true) (hE : EW Z a0 EL0) {n0 : Nat} {h0 : Heap} (hO : Old Z n0 h0) (hG : Gl Z) {m0 m1 : Addr} (HM : Mf Z m0 m1) (i0 i1 i2 i3 i4 : Int32) :
    Ctr NW EL0 n0 Z [] l x code maxLocals ret room_1 #[.int i0, .int i1, .int i2, .int i3, .int i4] h0 (RV fun w h => w = .int 1) := by
  refine Ctr.body (plainFor_of_name pn_1) hE hO (fun x q => nomatch q) (L0 := #[.val (.int i0), .val (.int i1), .val (.int i2), .val (.int i3), .val (.int i4), .unset, .unset, .unset, .unset, .unset, .unset, .unset, .unset, .unset, .unset]) (fun m => by first | (simp [entryFrame, mkF, argsToLocals, Value.category, maxLocals]; done) | rfl) ?_
  intro p e s m below meth c T0 W0
  refine Go.iload_n W0.cx d_code_0 (v := i0) rfl ?_
  refine Go.iconst W0.cx d_code_1 (z := (1 : Int32)) rfl ?_
  refine Go.iand W0.cx d_code_2 ?_
  have J13 : ∀ (T : State) (h : Heap) (rb : Addr) (bs : List Int32), Wk NW EL0 n0 Z a0 "com/example/serialis/serialis/marc/MarcFormatByLabelPinLaw" "law" code maxLocals ret p l e room_1 s m #[.int i0, .int i1, .int i2, .int i3, .int i4] below meth c T h [] 2 32 → Str Z h rb bs → 0 < bs.length → bs.length ≤ 8 → Go p e below (Endp NW EL0 n0 Z below s room_1.cells room_1.slots (RV fun w h => w = .int 1)) T (mkF m 13 #[.val (.int i0), .val (.int i1), .val (.int i2), .val (.int i3), .val (.int i4), .unset, .unset, .unset, .unset, .unset, .unset, .unset, .unset, .unset, .unset] [(.ref rb)]) := by
    intro T13 h13 rb bs W13 Sb hb0 hb8
    refine Go.astore W13.cx d_code_13 (L' := #[.val (.int i0), .val (.int i1), .val (.int i2), .val (.int i3), .val (.int i4), .val (.ref rb), .unset, .unset, .unset, .unset, .unset, .unset, .unset, .unset, .unset]) rfl rfl ?_
    refine Go.aload W13.cx d_code_15 (v := (.ref rb)) rfl rfl ?_
    refine Go.invv1 W13 (strLen (wt := 0) W13.ew hw hG Sb (by decide) (by decide)) d_code_17 (wd hw 8 rfl) (wd hw 9 rfl) (wd hw 11 rfl) (wd hw 10 rfl) (by decide) Sb.exa pd_1 rfl rfl (rest := []) rfl (Nat.le_of_eq rfl) (cells' := 2) (slots' := 32) rfl rfl (by decide) (by decide) ?_
    rintro T1 h1 _ W1 z1 ⟨rfl, e1⟩
    subst e1
    refine Go.istore W1.cx d_code_20 (L' := #[.val (.int i0), .val (.int i1), .val (.int i2), .val (.int i3), .val (.int i4), .val (.ref rb), .val (.int (Int32.ofNat bs.length)), .unset, .unset, .unset, .unset, .unset, .unset, .unset, .unset]) rfl ?_
    refine Go.iload_n W1.cx d_code_22 (v := i3) rfl ?_
    refine Go.sipush W1.cx d_code_23 (z := (255 : Int32)) rfl ?_
    refine Go.iand W1.cx d_code_26 ?_
    refine Go.i2c W1.cx d_code_27 ?_
    refine Go.top (show _ = (i3 &&& (255 : Int32)) from i2c_mask _) ?_
    refine Go.istore W1.cx d_code_28 (L' := #[.val (.int i0), .val (.int i1), .val (.int i2), .val (.int i3), .val (.int i4), .val (.ref rb), .val (.int (Int32.ofNat bs.length)), .val (.int (i3 &&& (255 : Int32))), .unset, .unset, .unset, .unset, .unset, .unset, .unset]) rfl ?_
    refine Go.bipush W1.cx d_code_30 (z := (8 : Int32)) rfl ?_
    refine Go.newarr W1 d_code_32 (wd hw 21 rfl) (z := (8 : Int32)) (cap := 8) (by decide) (by decide) (by decide) (cells' := 3) (slots' := 40) rfl rfl (by decide) (by decide) ?_
    intro T2 h2 a2 ka2 g2 W2 E2 A2
    have V2 : CArr Z h2 a2 ka2 [0, 0, 0, 0, 0, 0, 0, 0] := CArr.of_new A2 (k := 8) rfl rfl
    refine Go.astore W2.cx d_code_34 (L' := #[.val (.int i0), .val (.int i1), .val (.int i2), .val (.int i3), .val (.int i4), .val (.ref rb), .val (.int (Int32.ofNat bs.length)), .val (.int (i3 &&& (255 : Int32))), .val (.ref a2), .unset, .unset, .unset, .unset, .unset, .unset]) rfl rfl ?_
    refine Go.aload W2.cx d_code_36 (v := (.ref a2)) rfl rfl ?_
    refine Go.iconst W2.cx d_code_38 (z := (0 : Int32)) rfl ?_
    refine Go.aload W2.cx d_code_39 (v := (.ref rb)) rfl rfl ?_
    refine Go.iconst W2.cx d_code_41 (z := (0 : Int32)) rfl ?_
    refine Go.iload W2.cx d_code_42 (v := (i3 &&& (255 : Int32))) rfl ?_
    refine Go.invs1 W2 (Ctr.call (wt := 2) (c_at l Z a0 hw hE W2.old hG (Sb.ext E2) (i := 0) (by decide) (b255 i3)) W2.ew (wd hw 25 rfl) (wd hw 24 rfl) (by simp) (by decide) (by decide)) d_code_44 (wd hw 22 rfl) (wd hw 23 rfl) (wd hw 24 rfl) (wd hw 25 rfl) (by decide) pd_10 rfl rfl (rest := [(.int (0 : Int32)), (.ref a2)]) rfl (Nat.le_of_eq rfl) (cells' := 3) (slots' := 40) rfl rfl (by decide) (by decide) ?_
    rintro T3 h3 _ W3 z3 ⟨y3, rfl, rg3, e3⟩
    subst e3
    refine Go.castore W3 0 d_code_47 V2 (by simp) rfl (Nat.le_of_ble_eq_true rfl) (Nat.le_of_ble_eq_true rfl) (x' := y3) (nar_ch rg3) ?_
    intro T4 h4 W4 K4 V4
    have V4 : CArr Z h4 a2 ka2 [y3, 0, 0, 0, 0, 0, 0, 0] := V4
    have X4 : Ext h13 h4 := ext_keep E2 K4 (all1 (Nat.le_of_eq g2.symm))
    refine Go.aload W4.cx d_code_48 (v := (.ref a2)) rfl rfl ?_
    refine Go.iconst W4.cx d_code_50 (z := (1 : Int32)) rfl ?_
    refine Go.aload W4.cx d_code_51 (v := (.ref rb)) rfl rfl ?_
    refine Go.iconst W4.cx d_code_53 (z := (1 : Int32)) rfl ?_
    refine Go.iload W4.cx d_code_54 (v := (i3 &&& (255 : Int32))) rfl ?_
    refine Go.invs1 W4 (Ctr.call (wt := 2) (c_at l Z a0 hw hE W4.old hG (Sb.ext X4) (i := 1) (by decide) (b255 i3)) W4.ew (wd hw 25 rfl) (wd hw 24 rfl) (by simp) (by decide) (by decide)) d_code_56 (wd hw 22 rfl) (wd hw 23 rfl) (wd hw 24 rfl) (wd hw 25 rfl) (by decide) pd_10 rfl rfl (rest := [(.int (1 : Int32)), (.ref a2)]) rfl (Nat.le_of_eq rfl) (cells' := 3) (slots' := 40) rfl rfl (by decide) (by decide) ?_
    rintro T5 h5 _ W5 z5 ⟨y5, rfl, rg5, e5⟩
    subst e5
    refine Go.castore W5 1 d_code_59 V4 (by simp) rfl (Nat.le_of_ble_eq_true rfl) (Nat.le_of_ble_eq_true rfl) (x' := y5) (nar_ch rg5) ?_
    intro T6 h6 W6 K6 V6
    have V6 : CArr Z h6 a2 ka2 [y3, y5, 0, 0, 0, 0, 0, 0] := V6
    have X6 : Ext h13 h6 := ext_keep X4 K6 (all1 (Nat.le_of_eq g2.symm))
    refine Go.aload W6.cx d_code_60 (v := (.ref a2)) rfl rfl ?_
    refine Go.iconst W6.cx d_code_62 (z := (2 : Int32)) rfl ?_
    refine Go.aload W6.cx d_code_63 (v := (.ref rb)) rfl rfl ?_
    refine Go.iconst W6.cx d_code_65 (z := (2 : Int32)) rfl ?_
    refine Go.iload W6.cx d_code_66 (v := (i3 &&& (255 : Int32))) rfl ?_
    refine Go.invs1 W6 (Ctr.call (wt := 2) (c_at l Z a0 hw hE W6.old hG (Sb.ext X6) (i := 2) (by decide) (b255 i3)) W6.ew (wd hw 25 rfl) (wd hw 24 rfl) (by simp) (by decide) (by decide)) d_code_68 (wd hw 22 rfl) (wd hw 23 rfl) (wd hw 24 rfl) (wd hw 25 rfl) (by decide) pd_10 rfl rfl (rest := [(.int (2 : Int32)), (.ref a2)]) rfl (Nat.le_of_eq rfl) (cells' := 3) (slots' := 40) rfl rfl (by decide) (by decide) ?_
    rintro T7 h7 _ W7 z7 ⟨y7, rfl, rg7, e7⟩
    subst e7
    refine Go.castore W7 2 d_code_71 V6 (by simp) rfl (Nat.le_of_ble_eq_true rfl) (Nat.le_of_ble_eq_true rfl) (x' := y7) (nar_ch rg7) ?_
    intro T8 h8 W8 K8 V8
    have V8 : CArr Z h8 a2 ka2 [y3, y5, y7, 0, 0, 0, 0, 0] := V8
    have X8 : Ext h13 h8 := ext_keep X6 K8 (all1 (Nat.le_of_eq g2.symm))
    refine Go.aload W8.cx d_code_72 (v := (.ref a2)) rfl rfl ?_
    refine Go.iconst W8.cx d_code_74 (z := (3 : Int32)) rfl ?_
    refine Go.aload W8.cx d_code_75 (v := (.ref rb)) rfl rfl ?_
    refine Go.iconst W8.cx d_code_77 (z := (3 : Int32)) rfl ?_
    refine Go.iload W8.cx d_code_78 (v := (i3 &&& (255 : Int32))) rfl ?_
    refine Go.invs1 W8 (Ctr.call (wt := 2) (c_at l Z a0 hw hE W8.old hG (Sb.ext X8) (i := 3) (by decide) (b255 i3)) W8.ew (wd hw 25 rfl) (wd hw 24 rfl) (by simp) (by decide) (by decide)) d_code_80 (wd hw 22 rfl) (wd hw 23 rfl) (wd hw 24 rfl) (wd hw 25 rfl) (by decide) pd_10 rfl rfl (rest := [(.int (3 : Int32)), (.ref a2)]) rfl (Nat.le_of_eq rfl) (cells' := 3) (slots' := 40) rfl rfl (by decide) (by decide) ?_
    rintro T9 h9 _ W9 z9 ⟨y9, rfl, rg9, e9⟩
    subst e9
    refine Go.castore W9 3 d_code_83 V8 (by simp) rfl (Nat.le_of_ble_eq_true rfl) (Nat.le_of_ble_eq_true rfl) (x' := y9) (nar_ch rg9) ?_
    intro T10 h10 W10 K10 V10
    have V10 : CArr Z h10 a2 ka2 [y3, y5, y7, y9, 0, 0, 0, 0] := V10
    have X10 : Ext h13 h10 := ext_keep X8 K10 (all1 (Nat.le_of_eq g2.symm))
    refine Go.aload W10.cx d_code_84 (v := (.ref a2)) rfl rfl ?_
    refine Go.iconst W10.cx d_code_86 (z := (4 : Int32)) rfl ?_
    refine Go.aload W10.cx d_code_87 (v := (.ref rb)) rfl rfl ?_
    refine Go.iconst W10.cx d_code_89 (z := (4 : Int32)) rfl ?_
    refine Go.iload W10.cx d_code_90 (v := (i3 &&& (255 : Int32))) rfl ?_
    refine Go.invs1 W10 (Ctr.call (wt := 2) (c_at l Z a0 hw hE W10.old hG (Sb.ext X10) (i := 4) (by decide) (b255 i3)) W10.ew (wd hw 25 rfl) (wd hw 24 rfl) (by simp) (by decide) (by decide)) d_code_92 (wd hw 22 rfl) (wd hw 23 rfl) (wd hw 24 rfl) (wd hw 25 rfl) (by decide) pd_10 rfl rfl (rest := [(.int (4 : Int32)), (.ref a2)]) rfl (Nat.le_of_eq rfl) (cells' := 3) (slots' := 40) rfl rfl (by decide) (by decide) ?_
    rintro T11 h11 _ W11 z11 ⟨y11, rfl, rg11, e11⟩
    subst e11
    refine Go.castore W11 4 d_code_95 V10 (by simp) rfl (Nat.le_of_ble_eq_true rfl) (Nat.le_of_ble_eq_true rfl) (x' := y11) (nar_ch rg11) ?_
    intro T12 h12 W12 K12 V12
    have V12 : CArr Z h12 a2 ka2 [y3, y5, y7, y9, y11, 0, 0, 0] := V12
    have X12 : Ext h13 h12 := ext_keep X10 K12 (all1 (Nat.le_of_eq g2.symm))
    refine Go.aload W12.cx d_code_96 (v := (.ref a2)) rfl rfl ?_
    refine Go.iconst W12.cx d_code_98 (z := (5 : Int32)) rfl ?_
    refine Go.aload W12.cx d_code_99 (v := (.ref rb)) rfl rfl ?_
    refine Go.iconst W12.cx d_code_101 (z := (5 : Int32)) rfl ?_
    refine Go.iload W12.cx d_code_102 (v := (i3 &&& (255 : Int32))) rfl ?_
    refine Go.invs1 W12 (Ctr.call (wt := 2) (c_at l Z a0 hw hE W12.old hG (Sb.ext X12) (i := 5) (by decide) (b255 i3)) W12.ew (wd hw 25 rfl) (wd hw 24 rfl) (by simp) (by decide) (by decide)) d_code_104 (wd hw 22 rfl) (wd hw 23 rfl) (wd hw 24 rfl) (wd hw 25 rfl) (by decide) pd_10 rfl rfl (rest := [(.int (5 : Int32)), (.ref a2)]) rfl (Nat.le_of_eq rfl) (cells' := 3) (slots' := 40) rfl rfl (by decide) (by decide) ?_
    rintro T13 h13 _ W13 z13 ⟨y13, rfl, rg13, e13⟩
    subst e13
    refine Go.castore W13 5 d_code_107 V12 (by simp) rfl (Nat.le_of_ble_eq_true rfl) (Nat.le_of_ble_eq_true rfl) (x' := y13) (nar_ch rg13) ?_
    intro T14 h14 W14 K14 V14
    have V14 : CArr Z h14 a2 ka2 [y3, y5, y7, y9, y11, y13, 0, 0] := V14
    have X14 : Ext h13 h14 := ext_keep X12 K14 (all1 (Nat.le_of_eq g2.symm))
    refine Go.aload W14.cx d_code_108 (v := (.ref a2)) rfl rfl ?_
    refine Go.bipush W14.cx d_code_110 (z := (6 : Int32)) rfl ?_
    refine Go.aload W14.cx d_code_112 (v := (.ref rb)) rfl rfl ?_
    refine Go.bipush W14.cx d_code_114 (z := (6 : Int32)) rfl ?_
    refine Go.iload W14.cx d_code_116 (v := (i3 &&& (255 : Int32))) rfl ?_
    refine Go.invs1 W14 (Ctr.call (wt := 2) (c_at l Z a0 hw hE W14.old hG (Sb.ext X14) (i := 6) (by decide) (b255 i3)) W14.ew (wd hw 25 rfl) (wd hw 24 rfl) (by simp) (by decide) (by decide)) d_code_118 (wd hw 22 rfl) (wd hw 23 rfl) (wd hw 24 rfl) (wd hw 25 rfl) (by decide) pd_10 rfl rfl (rest := [(.int (6 : Int32)), (.ref a2)]) rfl (Nat.le_of_eq rfl) (cells' := 3) (slots' := 40) rfl rfl (by decide) (by decide) ?_
    rintro T15 h15 _ W15 z15 ⟨y15, rfl, rg15, e15⟩
    subst e15
    refine Go.castore W15 6 d_code_121 V14 (by simp) rfl (Nat.le_of_ble_eq_true rfl) (Nat.le_of_ble_eq_true rfl) (x' := y15) (nar_ch rg15) ?_
    intro T16 h16 W16 K16 V16
    have V16 : CArr Z h16 a2 ka2 [y3, y5, y7, y9, y11, y13, y15, 0] := V16
    have X16 : Ext h13 h16 := ext_keep X14 K16 (all1 (Nat.le_of_eq g2.symm))
    refine Go.aload W16.cx d_code_122 (v := (.ref a2)) rfl rfl ?_
    refine Go.bipush W16.cx d_code_124 (z := (7 : Int32)) rfl ?_
    refine Go.aload W16.cx d_code_126 (v := (.ref rb)) rfl rfl ?_
    refine Go.bipush W16.cx d_code_128 (z := (7 : Int32)) rfl ?_
    refine Go.iload W16.cx d_code_130 (v := (i3 &&& (255 : Int32))) rfl ?_
    refine Go.invs1 W16 (Ctr.call (wt := 2) (c_at l Z a0 hw hE W16.old hG (Sb.ext X16) (i := 7) (by decide) (b255 i3)) W16.ew (wd hw 25 rfl) (wd hw 24 rfl) (by simp) (by decide) (by decide)) d_code_132 (wd hw 22 rfl) (wd hw 23 rfl) (wd hw 24 rfl) (wd hw 25 rfl) (by decide) pd_10 rfl rfl (rest := [(.int (7 : Int32)), (.ref a2)]) rfl (Nat.le_of_eq rfl) (cells' := 3) (slots' := 40) rfl rfl (by decide) (by decide) ?_
    rintro T17 h17 _ W17 z17 ⟨y17, rfl, rg17, e17⟩
    subst e17
    refine Go.castore W17 7 d_code_135 V16 (by simp) rfl (Nat.le_of_ble_eq_true rfl) (Nat.le_of_ble_eq_true rfl) (x' := y17) (nar_ch rg17) ?_
    intro T18 h18 W18 K18 V18
    have V18 : CArr Z h18 a2 ka2 [y3, y5, y7, y9, y11, y13, y15, y17] := V18
    have X18 : Ext h13 h18 := ext_keep X16 K18 (all1 (Nat.le_of_eq g2.symm))
    refine Go.iload_n W18.cx d_code_136 (v := i1) rfl ?_
    refine Go.ldcI W18 d_code_137 (wd hw 48 rfl) ?_
    refine Go.iand W18.cx d_code_139 ?_
    refine Go.iconst W18.cx d_code_140 (z := (4 : Int32)) rfl ?_
    refine Go.irem W18.cx d_code_141 (by decide) ?_
    obtain ⟨kk, hkk, ekk⟩ := mask_rem i1 (q := 4) (y := (4 : Int32)) rfl (by decide) (by decide)
    refine Go.top ekk ?_
    obtain ⟨P, VP, hPl, hPc⟩ : ∃ P : List Int32, CArr Z h18 a2 ka2 P ∧ P.length = 8 ∧ ∀ c ∈ P, ¬ c < 0 ∧ ¬ (255 : Int32) < c := ⟨_, V18, rfl, all_cons rg3 (all_cons rg5 (all_cons rg7 (all_cons rg9 (all_cons rg11 (all_cons rg13 (all_cons rg15 (all_cons rg17 (all_nil))))))))⟩
    refine Go.istore W18.cx d_code_142 (L' := #[.val (.int i0), .val (.int i1), .val (.int i2), .val (.int i3), .val (.int i4), .val (.ref rb), .val (.int (Int32.ofNat bs.length)), .val (.int (i3 &&& (255 : Int32))), .val (.ref a2), .val (.int (Int32.ofNat kk)), .unset, .unset, .unset, .unset, .unset]) rfl ?_
    refine Go.iload W18.cx d_code_144 (v := (Int32.ofNat bs.length)) rfl ?_
    refine Go.istore W18.cx d_code_146 (L' := #[.val (.int i0), .val (.int i1), .val (.int i2), .val (.int i3), .val (.int i4), .val (.ref rb), .val (.int (Int32.ofNat bs.length)), .val (.int (i3 &&& (255 : Int32))), .val (.ref a2), .val (.int (Int32.ofNat kk)), .val (.int (Int32.ofNat bs.length)), .unset, .unset, .unset, .unset]) rfl ?_
    refine Go.iload W18.cx d_code_148 (v := (Int32.ofNat kk)) rfl ?_
    refine Go.iconst W18.cx d_code_150 (z := (1 : Int32)) rfl ?_
    have J216 : ∀ (T : State) (h : Heap) (P : List Int32) (n : Nat), Wk NW EL0 n0 Z a0 "com/example/serialis/serialis/marc/MarcFormatByLabelPinLaw" "law" code maxLocals ret p l e room_1 s m #[.int i0, .int i1, .int i2, .int i3, .int i4] below meth c T h [a2] 3 40 → CArr Z h a2 ka2 P → P.length = 8 → (∀ c ∈ P, ¬ c < 0 ∧ ¬ (255 : Int32) < c) → n ≤ 8 → Go p e below (Endp NW EL0 n0 Z below s room_1.cells room_1.slots (RV fun w h => w = .int 1)) T (mkF m 216 #[.val (.int i0), .val (.int i1), .val (.int i2), .val (.int i3), .val (.int i4), .val (.ref rb), .val (.int (Int32.ofNat bs.length)), .val (.int (i3 &&& (255 : Int32))), .val (.ref a2), .val (.int (Int32.ofNat kk)), .val (.int (Int32.ofNat n)), .unset, .unset, .unset, .unset] []) := by
      intro T216 h216 P n W216 VP hPl hPc hn8
      refine Go.aload W216.cx d_code_216 (v := (.ref a2)) rfl rfl ?_
      refine Go.iload W216.cx d_code_218 (v := (Int32.ofNat n)) rfl ?_
      refine Go.invs1 W216 (Ctr.call (wt := 0) (c_make l Z a0 hw hE W216.old hG VP hPc (by omega) (n := n) hn8 (by omega)) W216.ew (wd hw 51 rfl) (wd hw 24 rfl) (by simp) (by decide) (by decide)) d_code_220 (wd hw 49 rfl) (wd hw 50 rfl) (wd hw 24 rfl) (wd hw 51 rfl) (by decide) pd_11 rfl rfl (rest := []) rfl (Nat.le_of_eq rfl) (cells' := 9) (slots' := 60) rfl rfl (by decide) (by decide) ?_
      rintro T19 h19 _ W19 z19 ⟨r19, rfl, E19, S19⟩
      obtain ⟨cs, hcs⟩ : ∃ cs, cs = P.take n := ⟨_, rfl⟩
      rw [← hcs] at S19
      refine Go.astore W19.cx d_code_223 (L' := #[.val (.int i0), .val (.int i1), .val (.int i2), .val (.int i3), .val (.int i4), .val (.ref rb), .val (.int (Int32.ofNat bs.length)), .val (.int (i3 &&& (255 : Int32))), .val (.ref a2), .val (.int (Int32.ofNat kk)), .val (.int (Int32.ofNat n)), .val (.ref r19), .unset, .unset, .unset]) rfl rfl ?_
      refine Go.aload W19.cx d_code_225 (v := (.ref r19)) rfl rfl ?_
      refine Go.invs1 W19 (Ctr.call (wt := 0) (c_by l Z a0 hw hE W19.old hG S19 HM) W19.ew (wd hw 67 rfl) (wd hw 66 rfl) (by simp) (by decide) (by decide)) d_code_227 (wd hw 64 rfl) (wd hw 65 rfl) (wd hw 66 rfl) (wd hw 67 rfl) (by decide) pd_12 rfl rfl (rest := []) rfl (Nat.le_of_eq rfl) (cells' := 11) (slots' := 63) rfl rfl (by decide) (by decide) ?_
      rintro T20 h20 _ W20 z20 ⟨o20, v20, rfl, E20, X20, F20, R20⟩
      have Sa := S19.ext E20
      refine Go.astore W20.cx d_code_230 (L' := #[.val (.int i0), .val (.int i1), .val (.int i2), .val (.int i3), .val (.int i4), .val (.ref rb), .val (.int (Int32.ofNat bs.length)), .val (.int (i3 &&& (255 : Int32))), .val (.ref a2), .val (.int (Int32.ofNat kk)), .val (.int (Int32.ofNat n)), .val (.ref r19), .val (.ref o20), .unset, .unset]) rfl rfl ?_
      refine Go.aload W20.cx d_code_232 (v := (.ref r19)) rfl rfl ?_
      refine Go.ldcS W20 (fun q => q) d_code_234 (wd hw 0 rfl) (wS hw) (by decide) (cs := MARC) ⟨by decide +kernel, by decide +kernel⟩ (by decide +kernel) (by decide +kernel) (nn := 24) (by decide +kernel) (by decide) (cells' := 13) (slots' := 91) rfl rfl (by decide) (by decide) ?_
      intro T21 h21 l21 b21 kb21 W21 E21 A21 C21 V21 B21 X21 S21
      have Sb1 := Sa.ext E21
      refine Go.invv1 W21 (strEq (wt := 0) W21.ew hw hG Sb1 S21 (by decide) (by decide)) d_code_236 (wd hw 101 rfl) (wd hw 88 rfl) (wd hw 90 rfl) (wd hw 89 rfl) (by decide) Sb1.exa pd_7 rfl rfl (rest := []) rfl (Nat.le_of_eq rfl) (cells' := 13) (slots' := 91) rfl rfl (by decide) (by decide) ?_
      rintro T22 h22 _ W22 z22 ⟨rfl, e22⟩
      subst e22
      refine Go.istore W22.cx d_code_239 (L' := #[.val (.int i0), .val (.int i1), .val (.int i2), .val (.int i3), .val (.int i4), .val (.ref rb), .val (.int (Int32.ofNat bs.length)), .val (.int (i3 &&& (255 : Int32))), .val (.ref a2), .val (.int (Int32.ofNat kk)), .val (.int (Int32.ofNat n)), .val (.ref r19), .val (.ref o20), .val (.int (if cs = MARC then (1 : Int32) else 0)), .unset]) rfl ?_
      refine Go.aload W22.cx d_code_241 (v := (.ref r19)) rfl rfl ?_
      refine Go.ldcS W22 (fun q => q) d_code_243 (wd hw 102 rfl) (wS hw) (by decide) (cs := UNI) ⟨by decide +kernel, by decide +kernel⟩ (by decide +kernel) (by decide +kernel) (nn := 28) (by decide +kernel) (by decide) (cells' := 15) (slots' := 123) rfl rfl (by decide) (by decide) ?_
      intro T23 h23 l23 b23 kb23 W23 E23 A23 C23 V23 B23 X23 S23
      have Sb2 := Sb1.ext E23
      refine Go.invv1 W23 (strEq (wt := 0) W23.ew hw hG Sb2 S23 (by decide) (by decide)) d_code_245 (wd hw 101 rfl) (wd hw 88 rfl) (wd hw 90 rfl) (wd hw 89 rfl) (by decide) Sb2.exa pd_7 rfl rfl (rest := []) rfl (Nat.le_of_eq rfl) (cells' := 15) (slots' := 123) rfl rfl (by decide) (by decide) ?_
      rintro T24 h24 _ W24 z24 ⟨rfl, e24⟩
      subst e24
      refine Go.istore W24.cx d_code_248 (L' := #[.val (.int i0), .val (.int i1), .val (.int i2), .val (.int i3), .val (.int i4), .val (.ref rb), .val (.int (Int32.ofNat bs.length)), .val (.int (i3 &&& (255 : Int32))), .val (.ref a2), .val (.int (Int32.ofNat kk)), .val (.int (Int32.ofNat n)), .val (.ref r19), .val (.ref o20), .val (.int (if cs = MARC then (1 : Int32) else 0)), .val (.int (if cs = UNI then (1 : Int32) else 0))]) rfl ?_
      refine Go.iload W24.cx d_code_250 (v := (if cs = MARC then (1 : Int32) else 0)) rfl ?_
      have X4 := (X20.ext E21).ext E23
      have F4 := (F20.ext E21).ext E23
      obtain ⟨_, _, _, _, -, -, -, -, -, -, -, -, -, SM0, SM1⟩ := id HM
      rcases R20 with ⟨qa, rfl⟩ | ⟨qa, qb, rfl⟩ | ⟨qa, qb, rfl⟩
      · refine Go.ifne W24.cx d_code_252 (by decide) (q := 274) rfl (fun _ => ?_) (fun hh => (by first | exact absurd (show ¬ (if cs = MARC then (1 : Int32) else 0) = 0 by rw [if_pos qa]; decide) hh | exact absurd hh (show ¬ (if cs = MARC then (1 : Int32) else 0) = 0 by rw [if_pos qa]; decide)))
        refine Go.aload W24.cx d_code_274 (v := (.ref o20)) rfl rfl ?_
        refine Go.invv1 W24 (Ctr.call (wt := 0) (c_isp1 l Z a0 hw hE W24.old F4) W24.ew (wd hw 107 rfl) (wd hw 98 rfl) (by simp) (by decide) (by decide)) d_code_276 (wd hw 103 rfl) (wd hw 104 rfl) (wd hw 106 rfl) (wd hw 105 rfl) (by decide) X4 pd_13 rfl rfl (rest := []) rfl (Nat.le_of_eq rfl) (cells' := 15) (slots' := 123) rfl rfl (by decide) (by decide) ?_
        rintro T25 h25 _ W25 z25 ⟨rfl, e25⟩
        subst e25
        refine Go.ifne W25.cx d_code_279 (by decide) (q := 284) rfl (fun _ => ?_) (fun hh => (by first | exact absurd (by decide : ¬ (1 : Int32) = 0) hh | exact absurd hh (by decide : ¬ (1 : Int32) = 0)))
        refine Go.aload W25.cx d_code_284 (v := (.ref o20)) rfl rfl ?_
        refine Go.invv1 W25 (Ctr.call (wt := 0) (c_get l Z a0 hw hE W25.old F4) W25.ew (wd hw 138 rfl) (wd hw 98 rfl) (by simp) (by decide) (by decide)) d_code_286 (wd hw 134 rfl) (wd hw 135 rfl) (wd hw 137 rfl) (wd hw 136 rfl) (by decide) X4 pd_14 rfl rfl (rest := []) rfl (Nat.le_of_eq rfl) (cells' := 15) (slots' := 123) rfl rfl (by decide) (by decide) ?_
        rintro T26 h26 _ W26 z26 ⟨rfl, e26⟩
        subst e26
        refine Go.iload W26.cx d_code_289 (v := (if cs = MARC then (1 : Int32) else 0)) rfl ?_
        refine Go.ifeq W26.cx d_code_291 (by decide) (q := 300) rfl (fun hh => (by first | exact absurd (show ¬ (if cs = MARC then (1 : Int32) else 0) = 0 by rw [if_pos qa]; decide) hh | exact absurd hh (show ¬ (if cs = MARC then (1 : Int32) else 0) = 0 by rw [if_pos qa]; decide))) (fun _ => ?_)
        refine Go.gets W26 d_code_294 (wd hw 140 rfl) Via.refl SM0 ?_
        intro T27 W27
        refine Go.goto W27.cx d_code_297 (by decide) (q := 303) rfl ?_
        refine Go.acne W27.cx d_code_303 rfl rfl (by decide) (q := 310) rfl (fun hh => (by first | exact absurd rfl hh | exact absurd hh rfl)) (fun _ => ?_)
        refine Go.iconst W27.cx d_code_306 (z := (1 : Int32)) rfl ?_
        refine Go.goto W27.cx d_code_307 (by decide) (q := 311) rfl ?_
        exact Go.iret W27 d_code_311 (by simp) rfl (by decide) (by decide) ⟨_, rfl, rfl⟩
      · refine Go.ifne W24.cx d_code_252 (by decide) (q := 274) rfl (fun hh => (by first | exact absurd (show (if cs = MARC then (1 : Int32) else 0) = 0 from if_neg qa) hh | exact absurd hh (show (if cs = MARC then (1 : Int32) else 0) = 0 from if_neg qa))) (fun _ => ?_)
        refine Go.iload W24.cx d_code_255 (v := (if cs = UNI then (1 : Int32) else 0)) rfl ?_
        refine Go.ifne W24.cx d_code_257 (by decide) (q := 274) rfl (fun _ => ?_) (fun hh => (by first | exact absurd (show ¬ (if cs = UNI then (1 : Int32) else 0) = 0 by rw [if_pos qb]; decide) hh | exact absurd hh (show ¬ (if cs = UNI then (1 : Int32) else 0) = 0 by rw [if_pos qb]; decide)))
        refine Go.aload W24.cx d_code_274 (v := (.ref o20)) rfl rfl ?_
        refine Go.invv1 W24 (Ctr.call (wt := 0) (c_isp1 l Z a0 hw hE W24.old F4) W24.ew (wd hw 107 rfl) (wd hw 98 rfl) (by simp) (by decide) (by decide)) d_code_276 (wd hw 103 rfl) (wd hw 104 rfl) (wd hw 106 rfl) (wd hw 105 rfl) (by decide) X4 pd_13 rfl rfl (rest := []) rfl (Nat.le_of_eq rfl) (cells' := 15) (slots' := 123) rfl rfl (by decide) (by decide) ?_
        rintro T28 h28 _ W28 z28 ⟨rfl, e28⟩
        subst e28
        refine Go.ifne W28.cx d_code_279 (by decide) (q := 284) rfl (fun _ => ?_) (fun hh => (by first | exact absurd (by decide : ¬ (1 : Int32) = 0) hh | exact absurd hh (by decide : ¬ (1 : Int32) = 0)))
        refine Go.aload W28.cx d_code_284 (v := (.ref o20)) rfl rfl ?_
        refine Go.invv1 W28 (Ctr.call (wt := 0) (c_get l Z a0 hw hE W28.old F4) W28.ew (wd hw 138 rfl) (wd hw 98 rfl) (by simp) (by decide) (by decide)) d_code_286 (wd hw 134 rfl) (wd hw 135 rfl) (wd hw 137 rfl) (wd hw 136 rfl) (by decide) X4 pd_14 rfl rfl (rest := []) rfl (Nat.le_of_eq rfl) (cells' := 15) (slots' := 123) rfl rfl (by decide) (by decide) ?_
        rintro T29 h29 _ W29 z29 ⟨rfl, e29⟩
        subst e29
        refine Go.iload W29.cx d_code_289 (v := (if cs = MARC then (1 : Int32) else 0)) rfl ?_
        refine Go.ifeq W29.cx d_code_291 (by decide) (q := 300) rfl (fun _ => ?_) (fun hh => (by first | exact absurd (show (if cs = MARC then (1 : Int32) else 0) = 0 from if_neg qa) hh | exact absurd hh (show (if cs = MARC then (1 : Int32) else 0) = 0 from if_neg qa)))
        refine Go.gets W29 d_code_300 (wd hw 139 rfl) Via.refl SM1 ?_
        intro T30 W30
        refine Go.acne W30.cx d_code_303 rfl rfl (by decide) (q := 310) rfl (fun hh => (by first | exact absurd rfl hh | exact absurd hh rfl)) (fun _ => ?_)
        refine Go.iconst W30.cx d_code_306 (z := (1 : Int32)) rfl ?_
        refine Go.goto W30.cx d_code_307 (by decide) (q := 311) rfl ?_
        exact Go.iret W30 d_code_311 (by simp) rfl (by decide) (by decide) ⟨_, rfl, rfl⟩
      · refine Go.ifne W24.cx d_code_252 (by decide) (q := 274) rfl (fun hh => (by first | exact absurd (show (if cs = MARC then (1 : Int32) else 0) = 0 from if_neg qa) hh | exact absurd hh (show (if cs = MARC then (1 : Int32) else 0) = 0 from if_neg qa))) (fun _ => ?_)
        refine Go.iload W24.cx d_code_255 (v := (if cs = UNI then (1 : Int32) else 0)) rfl ?_
        refine Go.ifne W24.cx d_code_257 (by decide) (q := 274) rfl (fun hh => (by first | exact absurd (show (if cs = UNI then (1 : Int32) else 0) = 0 from if_neg qb) hh | exact absurd hh (show (if cs = UNI then (1 : Int32) else 0) = 0 from if_neg qb))) (fun _ => ?_)
        refine Go.aload W24.cx d_code_260 (v := (.ref o20)) rfl rfl ?_
        refine Go.invv1 W24 (Ctr.call (wt := 0) (c_isp0 l Z a0 hw hE W24.old (v := o20) F4) W24.ew (wd hw 107 rfl) (wd hw 98 rfl) (by simp) (by decide) (by decide)) d_code_262 (wd hw 103 rfl) (wd hw 104 rfl) (wd hw 106 rfl) (wd hw 105 rfl) (by decide) X4 pd_13 rfl rfl (rest := []) rfl (Nat.le_of_eq rfl) (cells' := 15) (slots' := 123) rfl rfl (by decide) (by decide) ?_
        rintro T31 h31 _ W31 z31 ⟨rfl, e31⟩
        subst e31
        refine Go.ifne W31.cx d_code_265 (by decide) (q := 272) rfl (fun hh => (by first | exact absurd (rfl : (0 : Int32) = 0) hh | exact absurd hh (rfl : (0 : Int32) = 0))) (fun _ => ?_)
        refine Go.iconst W31.cx d_code_268 (z := (1 : Int32)) rfl ?_
        refine Go.goto W31.cx d_code_269 (by decide) (q := 273) rfl ?_
        exact Go.iret W31 d_code_273 (by simp) rfl (by decide) (by decide) ⟨_, rfl, rfl⟩
    rcases (show kk = 0 ∨ kk = 1 ∨ kk = 2 ∨ kk = 3 by omega) with rfl | rfl | rfl | rfl
    · refine Go.icne W18.cx d_code_151 (by decide) (q := 169) rfl (fun _ => ?_) (fun hh => (by first | exact absurd (by decide : ¬ Int32.ofNat 0 = 1) hh | exact absurd hh (by decide : ¬ Int32.ofNat 0 = 1)))
      refine Go.iload W18.cx d_code_169 (v := (Int32.ofNat 0)) rfl ?_
      refine Go.iconst W18.cx d_code_171 (z := (2 : Int32)) rfl ?_
      refine Go.icne W18.cx d_code_172 (by decide) (q := 188) rfl (fun _ => ?_) (fun hh => (by first | exact absurd (by decide : ¬ Int32.ofNat 0 = 2) hh | exact absurd hh (by decide : ¬ Int32.ofNat 0 = 2)))
      refine Go.iload W18.cx d_code_188 (v := (Int32.ofNat 0)) rfl ?_
      refine Go.iconst W18.cx d_code_190 (z := (3 : Int32)) rfl ?_
      refine Go.icne W18.cx d_code_191 (by decide) (q := 216) rfl (fun _ => ?_) (fun hh => (by first | exact absurd (by decide : ¬ Int32.ofNat 0 = 3) hh | exact absurd hh (by decide : ¬ Int32.ofNat 0 = 3)))
      exact J216 _ _ _ _ W18 VP hPl hPc (by omega)
    · refine Go.icne W18.cx d_code_151 (by decide) (q := 169) rfl (fun hh => (by first | exact absurd (by decide : Int32.ofNat 1 = 1) hh | exact absurd hh (by decide : Int32.ofNat 1 = 1))) (fun _ => ?_)
      refine Go.aload W18.cx d_code_154 (v := (.ref a2)) rfl rfl ?_
      refine Go.iload_n W18.cx d_code_156 (v := i2) rfl ?_
      refine Go.ldcI W18 d_code_157 (wd hw 48 rfl) ?_
      refine Go.iand W18.cx d_code_159 ?_
      refine Go.iload W18.cx d_code_160 (v := (Int32.ofNat bs.length)) rfl ?_
      refine Go.irem W18.cx d_code_162 (fun z => absurd ((eq0_nat (by omega)).mp z) (by omega)) ?_
      obtain ⟨j, hj, ej⟩ := mask_rem i2 (q := bs.length) rfl (by omega) hb0
      refine Go.top ej ?_
      refine Go.iload W18.cx d_code_163 (v := (i3 &&& (255 : Int32))) rfl ?_
      refine Go.castore W18 j d_code_165 VP (by simp) rfl (by omega) (by omega) (x' := (i3 &&& (255 : Int32))) (nar_ok _) ?_
      intro T32 h32 W32 K32 V32
      refine Go.goto W32.cx d_code_166 (by decide) (q := 216) rfl ?_
      exact J216 _ _ _ _ W32 V32 (by rw [List.length_set]; exact hPl) (fun c q => (List.mem_or_eq_of_mem_set q).elim (hPc c) (fun u => u ▸ b255 i3)) (by omega)
    · refine Go.icne W18.cx d_code_151 (by decide) (q := 169) rfl (fun _ => ?_) (fun hh => (by first | exact absurd (by decide : ¬ Int32.ofNat 2 = 1) hh | exact absurd hh (by decide : ¬ Int32.ofNat 2 = 1)))
      refine Go.iload W18.cx d_code_169 (v := (Int32.ofNat 2)) rfl ?_
      refine Go.iconst W18.cx d_code_171 (z := (2 : Int32)) rfl ?_
      refine Go.icne W18.cx d_code_172 (by decide) (q := 188) rfl (fun hh => (by first | exact absurd (by decide : Int32.ofNat 2 = 2) hh | exact absurd hh (by decide : Int32.ofNat 2 = 2))) (fun _ => ?_)
      refine Go.iload W18.cx d_code_175 (v := i4) rfl ?_
      refine Go.ldcI W18 d_code_177 (wd hw 48 rfl) ?_
      refine Go.iand W18.cx d_code_179 ?_
      refine Go.bipush W18.cx d_code_180 (z := (9 : Int32)) rfl ?_
      refine Go.irem W18.cx d_code_182 (by decide) ?_
      obtain ⟨n, hn, en⟩ := mask_rem i4 (q := 9) (y := (9 : Int32)) rfl (by decide) (by decide)
      refine Go.top en ?_
      refine Go.istore W18.cx d_code_183 (L' := #[.val (.int i0), .val (.int i1), .val (.int i2), .val (.int i3), .val (.int i4), .val (.ref rb), .val (.int (Int32.ofNat bs.length)), .val (.int (i3 &&& (255 : Int32))), .val (.ref a2), .val (.int (Int32.ofNat 2)), .val (.int (Int32.ofNat n)), .unset, .unset, .unset, .unset]) rfl ?_
      refine Go.goto W18.cx d_code_185 (by decide) (q := 216) rfl ?_
      exact J216 _ _ _ _ W18 VP hPl hPc (by omega)
    · refine Go.icne W18.cx d_code_151 (by decide) (q := 169) rfl (fun _ => ?_) (fun hh => (by first | exact absurd (by decide : ¬ Int32.ofNat 3 = 1) hh | exact absurd hh (by decide : ¬ Int32.ofNat 3 = 1)))
      refine Go.iload W18.cx d_code_169 (v := (Int32.ofNat 3)) rfl ?_
      refine Go.iconst W18.cx d_code_171 (z := (2 : Int32)) rfl ?_
      refine Go.icne W18.cx d_code_172 (by decide) (q := 188) rfl (fun _ => ?_) (fun hh => (by first | exact absurd (by decide : ¬ Int32.ofNat 3 = 2) hh | exact absurd hh (by decide : ¬ Int32.ofNat 3 = 2)))
      refine Go.iload W18.cx d_code_188 (v := (Int32.ofNat 3)) rfl ?_
      refine Go.iconst W18.cx d_code_190 (z := (3 : Int32)) rfl ?_
      refine Go.icne W18.cx d_code_191 (by decide) (q := 216) rfl (fun hh => (by first | exact absurd (by decide : Int32.ofNat 3 = 3) hh | exact absurd hh (by decide : Int32.ofNat 3 = 3))) (fun _ => ?_)
      refine Go.iload W18.cx d_code_194 (v := i4) rfl ?_
      refine Go.ldcI W18 d_code_196 (wd hw 48 rfl) ?_
      refine Go.iand W18.cx d_code_198 ?_
      refine Go.bipush W18.cx d_code_199 (z := (9 : Int32)) rfl ?_
      refine Go.irem W18.cx d_code_201 (by decide) ?_
      obtain ⟨n, hn, en⟩ := mask_rem i4 (q := 9) (y := (9 : Int32)) rfl (by decide) (by decide)
      refine Go.top en ?_
      refine Go.istore W18.cx d_code_202 (L' := #[.val (.int i0), .val (.int i1), .val (.int i2), .val (.int i3), .val (.int i4), .val (.ref rb), .val (.int (Int32.ofNat bs.length)), .val (.int (i3 &&& (255 : Int32))), .val (.ref a2), .val (.int (Int32.ofNat 3)), .val (.int (Int32.ofNat n)), .unset, .unset, .unset, .unset]) rfl ?_
      refine Go.aload W18.cx d_code_204 (v := (.ref a2)) rfl rfl ?_
      refine Go.iload_n W18.cx d_code_206 (v := i2) rfl ?_
      refine Go.ldcI W18 d_code_207 (wd hw 48 rfl) ?_
      refine Go.iand W18.cx d_code_209 ?_
      refine Go.bipush W18.cx d_code_210 (z := (8 : Int32)) rfl ?_
      refine Go.irem W18.cx d_code_212 (by decide) ?_
      obtain ⟨j, hj, ej⟩ := mask_rem i2 (q := 8) (y := (8 : Int32)) rfl (by decide) (by decide)
      refine Go.top ej ?_
      refine Go.iload W18.cx d_code_213 (v := (i3 &&& (255 : Int32))) rfl ?_
      refine Go.castore W18 j d_code_215 VP (by simp) rfl (by omega) (by omega) (x' := (i3 &&& (255 : Int32))) (nar_ok _) ?_
      intro T33 h33 W33 K33 V33
      exact J216 _ _ _ _ W33 V33 (by rw [List.length_set]; exact hPl) (fun c q => (List.mem_or_eq_of_mem_set q).elim (hPc c) (fun u => u ▸ b255 i3)) (by omega)
  refine Go.ifne W0.cx d_code_3 (by decide) (q := 11) rfl (fun c0 => ?_) (fun c0 => ?_)
  · refine Go.ldcS W0 (fun q => q) d_code_11 (wd hw 102 rfl) (wS hw) (by decide) (cs := UNI) ⟨by decide +kernel, by decide +kernel⟩ (by decide +kernel) (by decide +kernel) (nn := 28) (by decide +kernel) (by decide) (cells' := 2) (slots' := 32) rfl rfl (by decide) (by decide) ?_
    intro T34 h34 l34 b34 kb34 W34 E34 A34 C34 V34 B34 X34 S34
    exact J13 _ _ _ _ W34 S34 (by decide) (by decide)
  · refine Go.ldcS W0 (fun q => q) d_code_6 (wd hw 0 rfl) (wS hw) (by decide) (cs := MARC) ⟨by decide +kernel, by decide +kernel⟩ (by decide +kernel) (by decide +kernel) (nn := 24) (by decide +kernel) (by decide) (cells' := 2) (slots' := 28) rfl rfl (by decide) (by decide) ?_
    intro T35 h35 l35 b35 kb35 W35 E35 A35 C35 V35 B35 X35 S35
    refine Go.goto W35.cx d_code_8 (by decide) (q := 13) rfl ?_
    exact J13 _ _ _ _ (W35.mono (by decide) (by decide)) S35 (by decide) (by decide)
set_option maxRecDepth 65536 in
set_option maxHeartbeats 40000000 in
theorem comes_1 {Post : Tables → Env → Array Value → State → Outcome → State → Prop} (hpost : ∀ tb e args s v u, (limb_1_1.after args s (.returned v) u = true ∧ limb_1_2.after args s (.returned v) u = true ∧ True) → ReturnedEndW s (.returned v) u (Jvm.fieldLocs frame_1_writes args s ++ Jvm.arrayLocs frame_1_arrays args s ++ Jvm.staticLocs frame_1_statics s) 32 3264 → Post tb e args s (.returned v) u) :
    ArmFor flags0 classFile x code maxLocals ret World_1 tables_1 room_1 Calls_1 rest_1 Pre_1 Post := by
  intro l hfl _ _ p e ha hc hk s m args below hf hA hF happ hP
  obtain ⟨hcalls, hrest, hpre⟩ := hP
  obtain ⟨-, -, -, hnamed, -, -, -, hat⟩ := (Spec.applies_iff hf).mp happ
  obtain ⟨hg, hn⟩ := and_e (Cond.before_iff.mp (show (Jvm.Cond.and given_1 narrow_1).before args s = true from hpre))
  obtain ⟨hcnt, hgv⟩ := and_e hg
  obtain ⟨g0, r0⟩ := and_e hgv
  obtain ⟨g1, r1⟩ := and_e r0
  obtain ⟨g2, r2⟩ := and_e r1
  obtain ⟨g3, r3⟩ := and_e r2
  obtain ⟨w0, w1, w2, w3, w4, rfl⟩ : ∃ w0 w1 w2 w3 w4 : Value, args = #[w0, w1, w2, w3, w4] := by
    have hs : args.size = 5 := by simpa [Cond.value, given_1] using hcnt
    obtain ⟨L⟩ := args
    match L, hs with
    | [w0, w1, w2, w3, w4], _ => exact ⟨w0, w1, w2, w3, w4, rfl⟩
  have hw := fun d (hd : d ∈ tables_1) => atoms_spec (ws := Jvm.Cond.code x code maxLocals ret :: tables_1) hat d (List.mem_cons_of_mem _ hd)
  obtain ⟨hsets, hown0⟩ := atoms_of _ (rest_1_c_eq ▸ (show rest_1_c.before _ s = true from hrest))
  have hr0 := Cond.before_iff.mp hown0
  obtain ⟨i0, e0⟩ := is_v g0
  obtain rfl : w0 = (.int i0) := Option.some.inj e0
  obtain ⟨i1, e1⟩ := is_v g1
  obtain rfl : w1 = (.int i1) := Option.some.inj e1
  obtain ⟨i2, e2⟩ := is_v g2
  obtain rfl : w2 = (.int i2) := Option.some.inj e2
  obtain ⟨i3, e3⟩ := is_v g3
  obtain rfl : w3 = (.int i3) := Option.some.inj e3
  obtain ⟨i4, e4⟩ := is_v r3
  obtain rfl : w4 = (.int i4) := Option.some.inj e4
  have n5 := not_v (Cond.before_iff.mp (hsets _ (List.mem_of_getElem? (i := 2) rfl)))
  obtain ⟨i11, e10⟩ := is_v (Cond.before_iff.mp (hsets _ (List.mem_of_getElem? (i := 1) rfl)))
  have S12 : Sta s s.heap "java/lang/String" "COMPACT_STRINGS" "Z" (.int i11) := Sta.start e10 (Or.inl (hsets _ (List.mem_of_getElem? (i := 0) rfl)))
  obtain ⟨v13, e14, r15⟩ := isR_v (Cond.before_iff.mp (hsets _ (List.mem_of_getElem? (i := 8) rfl)))
  have S16 : Sta s s.heap "jdk/internal/util/Preconditions" "SIOOBE_FORMATTER" "Ljava/util/function/BiFunction;" v13 := Sta.start e14 (Or.inl (hsets _ (List.mem_of_getElem? (i := 7) rfl)))
  have c17 : ¬ (i11 = (0 : Int32)) := gotF (Cond.eq_ints e10 (Term.int_eval (0))) n5
  have hG : Gl s := ⟨⟨i11, S12, c17⟩, v13, S16, r15⟩
  have hE : EW s #[.int i0, .int i1, .int i2, .int i3, .int i4] EL0 := EW.cons (wd hw 0 rfl) (by decide) (EW.cons (wd hw 102 rfl) (by decide) (EW.cons (wd hw 63 rfl) (by decide) (EW.nil)))
  have hCH : CHv s EL0 s.vm s.heap := CHv.start hE (fun q hq => hcalls.1 q hq) (hsets _ (List.mem_of_getElem? (i := 2) rfl)) (wd hw 3 rfl) (wd hw 2 rfl)
  obtain ⟨nq0, nr0⟩ := and_e hn
  obtain ⟨nq1, nr1⟩ := and_e nr0
  obtain ⟨nq2, nr2⟩ := and_e nr1
  obtain ⟨nq3, nr3⟩ := and_e nr2
  obtain ⟨nq4, nr4⟩ := and_e nr3
  obtain ⟨nq5, nr5⟩ := and_e nr4
  obtain ⟨nq6, nr6⟩ := and_e nr5
  obtain ⟨nq7, nr7⟩ := and_e nr6
  obtain ⟨nq8, nr8⟩ := and_e nr7
  obtain ⟨nq9, nr9⟩ := and_e nr8
  obtain ⟨nq10, nr10⟩ := and_e nr9
  obtain ⟨nq11, nr11⟩ := and_e nr10
  obtain ⟨nq12, nr12⟩ := and_e nr11
  obtain ⟨nq13, nr13⟩ := and_e nr12
  obtain ⟨nq14, nr14⟩ := and_e nr13
  obtain ⟨nq15, nr15⟩ := and_e nr14
  obtain ⟨nq16, nr16⟩ := and_e nr15
  obtain ⟨nq17, nr17⟩ := and_e nr16
  obtain ⟨nq18, nr18⟩ := and_e nr17
  obtain ⟨nq19, nr19⟩ := and_e nr18
  obtain ⟨nq20, nr20⟩ := and_e nr19
  obtain ⟨nq21, nr21⟩ := and_e nr20
  obtain ⟨nq22, nr22⟩ := and_e nr21
  obtain ⟨nq23, nr23⟩ := and_e nr22
  obtain ⟨nq24, nr24⟩ := and_e nr23
  obtain ⟨nq25, nr25⟩ := and_e nr24
  obtain ⟨nq26, nr26⟩ := and_e nr25
  obtain ⟨m0, em0⟩ := exa_v nq3
  obtain ⟨m1, em1⟩ := exa_v nq5
  obtain ⟨vA, evA⟩ := exa_v nq1
  have OV := oar2 nq0 nq1 nq2 nq4 nq6 evA em0 em1
  obtain ⟨l0, el0, S0⟩ := str_of (cs := MARC) nq7 nq8 nq9 nq10 rfl (by decide) (by decide) (fun i hi => by rcases (show i = 0 ∨ i = 1 ∨ i = 2 ∨ i = 3 ∨ i = 4 ∨ i = 5 from by have : i < 6 := hi; omega) with rfl | rfl | rfl | rfl | rfl | rfl; exact (show by8 (MARC.getD 0 0) = 109 from by decide) ▸ nq15; exact (show by8 (MARC.getD 1 0) = 97 from by decide) ▸ nq16; exact (show by8 (MARC.getD 2 0) = 114 from by decide) ▸ nq17; exact (show by8 (MARC.getD 3 0) = 99 from by decide) ▸ nq18; exact (show by8 (MARC.getD 4 0) = 50 from by decide) ▸ nq19; exact (show by8 (MARC.getD 5 0) = 49 from by decide) ▸ nq20)
  obtain ⟨l1, el1, S1⟩ := str_of (cs := UNI) nq11 nq12 nq13 nq14 rfl (by decide) (by decide) (fun i hi => by rcases (show i = 0 ∨ i = 1 ∨ i = 2 ∨ i = 3 ∨ i = 4 ∨ i = 5 ∨ i = 6 from by have : i < 7 := hi; omega) with rfl | rfl | rfl | rfl | rfl | rfl | rfl; exact (show by8 (UNI.getD 0 0) = 117 from by decide) ▸ nq21; exact (show by8 (UNI.getD 1 0) = 110 from by decide) ▸ nq22; exact (show by8 (UNI.getD 2 0) = 105 from by decide) ▸ nq23; exact (show by8 (UNI.getD 3 0) = 109 from by decide) ▸ nq24; exact (show by8 (UNI.getD 4 0) = 97 from by decide) ▸ nq25; exact (show by8 (UNI.getD 5 0) = 114 from by decide) ▸ nq26; exact (show by8 (UNI.getD 6 0) = 99 from by decide) ▸ nr26)
  have q11 := Cond.before_iff.mp (hsets _ (List.mem_of_getElem? (i := 11) rfl))
  have q12 := Cond.before_iff.mp (hsets _ (List.mem_of_getElem? (i := 12) rfl))
  obtain ⟨em, ee⟩ := exa_v q11
  have HM : Mf s m0 m1 := ⟨vA, l0, l1, em, Sta.start evA (Or.inr ⟨(wd hw 66 rfl), (wd hw 72 rfl)⟩), OV, Fld.start ((fld_at em0).symm.trans el0), Fld.start ((fld_at em1).symm.trans el1), S0, S1, Sta.start ee (Or.inl (hsets _ (List.mem_of_getElem? (i := 10) rfl))), Exa.start ee q11, Fld.start ((fld_at ee).symm.trans (null_v q12)), Sta.start em0 (Or.inr ⟨(wd hw 66 rfl), (wd hw 80 rfl)⟩), Sta.start em1 (Or.inr ⟨(wd hw 66 rfl), (wd hw 81 rfl)⟩)⟩
  obtain ⟨n, o, h1, h2, h3, v, L, rfl, ⟨w, rfl, rfl⟩, N, -, -, ⟨r1, r2, r3, r4⟩, hnw⟩ := c_law l s _ hw hE (Old.start s) hG HM i0 i1 i2 i3 i4 tables_1 p e ha hc hk s m _ below hf ((Spec.applies_iff_loose hf).mp happ).1 ⟨rfl, rfl, State.Warmed39.refl s, hCH, fun _ q => nomatch q⟩ trivial
  exact ⟨n, _, h1, h2, h3, hpost _ _ _ _ _ _ ⟨Cond.after_iff.mpr rfl, Cond.after_iff.mpr (eq_i res_at (Term.int_eval (1)) rfl), trivial⟩ ⟨r1, r2, r3, (r4.sift fun y hy => Or.inr (N y hy)).mono (by decide) (by decide)⟩⟩
theorem main_1_1 : Claimed_1_1 := comes_1 fun _ _ _ _ _ _ h hF => ⟨h.1, hF⟩
theorem main_1_2 : Claimed_1_2 := comes_1 fun _ _ _ _ _ _ h hF => ⟨h.2.1, hF⟩
end Jvm.Pilot.@@N@@
namespace Jvm.Pilot.@@N@@
open Jvm Jvm.ClassFile Sem Op Lib Jvm.Free Jvm.Stand Jvm.Pilot.@@N@@.Jvm.D
/-! MADE BY PROGRAM (witnessworld.py) out of the Statement's table words and the real class files: 24 classes; the members and pool entries that the words name. The judged class is class 1, her method 3. -/
namespace start1
open Jvm.ClassFile
def u (s : String) : CpInfo := .utf8 (stringToUtf16 s)
/-- a pool by its gaps: so many unusable entries, then the entry; so many at the end -/
def gap : Nat → List CpInfo → List CpInfo
  | 0, r => r
  | n + 1, r => .unusable :: gap n r
def poolList (es : List (Nat × CpInfo)) (last : Nat) : List CpInfo := es.foldr (fun e r => gap e.1 (e.2 :: r)) (gap last [])
def pool (es : List (Nat × CpInfo)) (last : Nat) : Array CpInfo := ⟨poolList es last⟩
def fileOf (pool : Array CpInfo) (this : Nat) (attrs : Array Attribute := #[]) (ms : Array MethodInfo := #[]) (fl : Nat := 33) (sup : Nat := 0) (ifs : Array Nat := #[]) (fds : Array FieldInfo := #[]) : ClassFile where
  minorVersion := 0
  majorVersion := 65
  constantPool := pool
  accessFlags := fl
  thisClass := this
  superClass := sup
  interfaces := ifs
  fields := fds
  methods := ms
  attributes := attrs
def plain (name : String) (sup : Option ClassId) : Class where
  name := name
  kind := .ordinary
  loader := none
  accessFlags := 33
  super := sup
  interfaces := #[]
  cf := none
  fields := #[]
  methods := #[]
  instanceTypes := #[]
  staticTypes := #[]
  resolved := #[]
  callSites := []
  init := .initialized
  statics := none
  mirror := none

def pool0 : Array CpInfo := pool [(5, u "<init>"), (0, u "()V"), (1, .class_ 10), (1, u "java/lang/Object"), (85, u "clone"), (0, u "()Ljava/lang/Object;")] 26

def k0c0 : Code := { maxStack := 0, maxLocals := 1, code := object_method_1_code, exceptionTable := #[], attributes := #[] }
def k0m0 : Method := { name := "<init>", desc := "()V", sig := { parameters := [], returnType := none }, accessFlags := 1, code := some k0c0 }
def k0m1 : Method := { name := "clone", desc := "()Ljava/lang/Object;", sig := { parameters := [], returnType := some (.object "java/lang/Object") }, accessFlags := 260, code := none }
/-- java/lang/Object -/
def k0 : Class := { plain "java/lang/Object" none with
  accessFlags := 33
  interfaces := #[]
  cf := some (fileOf pool0 8 #[] #[{ accessFlags := 1, nameIndex := 5, descriptorIndex := 6, attributes := #[] }, { accessFlags := 260, nameIndex := 96, descriptorIndex := 97, attributes := #[] }] 33 0 #[] #[])
  fields := #[]
  methods := #[k0m0, k0m1]
  instanceTypes := #[]
  staticTypes := #[]
  resolved := Array.replicate 124 none
  statics := none }

def pool1 : Array CpInfo := pool [(2, .class_ 4), (1, u "java/lang/Object"), (0, u "<init>"), (0, u "()V"), (0, .methodref 8 9), (0, .class_ 10), (0, .nameAndType 11 12), (0, u "java/lang/String"), (0, u "length"), (0, u "()I"), (0, .methodref 8 14), (0, .nameAndType 15 16), (0, u "charAt"), (0, u "(I)C"), (0, .methodref 8 18), (0, .nameAndType 5 19), (0, u "([C)V"), (0, .string 21), (0, u "marc21"), (0, .string 23), (0, u "unimarc"), (0, .methodref 25 26), (0, .class_ 27), (0, .nameAndType 28 29), (0, u "com/example/serialis/serialis/marc/MarcFormatByLabelPinLaw"), (0, u "at"), (0, u "(Ljava/lang/String;IC)C"), (0, .integer 2147483647), (0, .methodref 25 32), (0, .nameAndType 33 34), (0, u "make"), (0, u "([CI)Ljava/lang/String;"), (0, .methodref 36 37), (0, .class_ 38), (0, .nameAndType 39 40), (0, u "com/example/serialis/serialis/marc/MarcFormat"), (0, u "byLabel"), (0, u "(Ljava/lang/String;)Ljava/util/Optional;"), (0, .methodref 8 42), (0, .nameAndType 43 44), (0, u "equals"), (0, u "(Ljava/lang/Object;)Z"), (0, .methodref 46 47), (0, .class_ 48), (0, .nameAndType 49 50), (0, u "java/util/Optional"), (0, u "isPresent"), (0, u "()Z"), (0, .methodref 46 52), (0, .nameAndType 53 54), (0, u "get"), (0, u "()Ljava/lang/Object;"), (0, .fieldref 36 56), (0, .nameAndType 57 58), (0, u "MARC21"), (0, u "Lcom/example/serialis/serialis/marc/MarcFormat;"), (0, .fieldref 36 60), (0, .nameAndType 61 58), (0, u "UNIMARC"), (3, u "law"), (0, u "(IIIII)Z")] 4

def k1m0 : Method := { name := "<init>", desc := "()V", sig := { parameters := [], returnType := none }, accessFlags := 1, code := none }
def k1c1 : Code := { maxStack := 2, maxLocals := 3, code := method_2_code, exceptionTable := #[], attributes := #[] }
def k1m1 : Method := { name := "at", desc := "(Ljava/lang/String;IC)C", sig := { parameters := [(.object "java/lang/String"), .int, .char], returnType := some .char }, accessFlags := 10, code := some k1c1 }
def k1c2 : Code := { maxStack := 7, maxLocals := 2, code := method_3_code, exceptionTable := #[], attributes := #[] }
def k1m2 : Method := { name := "make", desc := "([CI)Ljava/lang/String;", sig := { parameters := [(.array .char), .int], returnType := some (.object "java/lang/String") }, accessFlags := 10, code := some k1c2 }
def k1c3 : Code := { maxStack := 5, maxLocals := 15, code := code, exceptionTable := #[], attributes := #[] }
def k1m3 : Method := { name := "law", desc := "(IIIII)Z", sig := { parameters := [.int, .int, .int, .int, .int], returnType := some .boolean }, accessFlags := 9, code := some k1c3 }
/-- com/example/serialis/serialis/marc/MarcFormatByLabelPinLaw -/
def k1 : Class := { plain "com/example/serialis/serialis/marc/MarcFormatByLabelPinLaw" (some 0) with
  accessFlags := 49
  interfaces := #[]
  cf := some (fileOf pool1 25 #[] #[{ accessFlags := 1, nameIndex := 5, descriptorIndex := 6, attributes := #[] }, { accessFlags := 10, nameIndex := 28, descriptorIndex := 29, attributes := #[] }, { accessFlags := 10, nameIndex := 33, descriptorIndex := 34, attributes := #[] }, { accessFlags := 9, nameIndex := 65, descriptorIndex := 66, attributes := #[] }] 49 2 #[] #[])
  fields := #[]
  methods := #[k1m0, k1m1, k1m2, k1m3]
  instanceTypes := #[]
  staticTypes := #[]
  resolved := Array.replicate 71 none
  statics := none }

def pool2 : Array CpInfo := pool [(1, .class_ 2), (0, u "java/io/Serializable"), (0, .class_ 4), (0, u "java/lang/Object")] 2

/-- java/io/Serializable -/
def k2 : Class := { plain "java/io/Serializable" (some 0) with
  accessFlags := 1537
  interfaces := #[]
  cf := some (fileOf pool2 1 #[] #[] 1537 3 #[] #[])
  fields := #[]
  methods := #[]
  instanceTypes := #[]
  staticTypes := #[]
  resolved := Array.replicate 7 none
  statics := none }

def pool3 : Array CpInfo := pool [(1, .class_ 2), (0, u "java/lang/Comparable"), (0, .class_ 4), (0, u "java/lang/Object")] 7

/-- java/lang/Comparable -/
def k3 : Class := { plain "java/lang/Comparable" (some 0) with
  accessFlags := 1537
  interfaces := #[]
  cf := some (fileOf pool3 1 #[] #[] 1537 3 #[] #[])
  fields := #[]
  methods := #[]
  instanceTypes := #[]
  staticTypes := #[]
  resolved := Array.replicate 12 none
  statics := none }

def pool4 : Array CpInfo := pool [(2, .class_ 4), (1, u "java/lang/CharSequence"), (42, .class_ 48), (0, u "java/lang/CharSequence$1CodePointIterator"), (10, .class_ 60), (0, u "java/lang/CharSequence$1CharIterator"), (5, .class_ 67), (0, u "java/lang/Object")] 63

/-- java/lang/CharSequence -/
def k4 : Class := { plain "java/lang/CharSequence" (some 0) with
  accessFlags := 1537
  interfaces := #[]
  cf := some (fileOf pool4 2 #[.nestMembers #[47, 59]] #[] 1537 66 #[] #[])
  fields := #[]
  methods := #[]
  instanceTypes := #[]
  staticTypes := #[]
  resolved := Array.replicate 131 none
  statics := none }

def pool5 : Array CpInfo := pool [(1, .class_ 2), (0, u "java/lang/constant/Constable"), (0, .class_ 4), (0, u "java/lang/Object")] 6

/-- java/lang/constant/Constable -/
def k5 : Class := { plain "java/lang/constant/Constable" (some 0) with
  accessFlags := 1537
  interfaces := #[]
  cf := some (fileOf pool5 1 #[] #[] 1537 3 #[] #[])
  fields := #[]
  methods := #[]
  instanceTypes := #[]
  staticTypes := #[]
  resolved := Array.replicate 11 none
  statics := none }

def pool6 : Array CpInfo := pool [(1, .class_ 2), (0, u "java/lang/constant/ConstantDesc"), (0, .class_ 4), (0, u "java/lang/Object")] 32

/-- java/lang/constant/ConstantDesc -/
def k6 : Class := { plain "java/lang/constant/ConstantDesc" (some 0) with
  accessFlags := 1537
  interfaces := #[]
  cf := some (fileOf pool6 1 #[] #[] 1537 3 #[] #[])
  fields := #[]
  methods := #[]
  instanceTypes := #[]
  staticTypes := #[]
  resolved := Array.replicate 37 none
  statics := none }

def pool7 : Array CpInfo := pool [(1, .methodref 2 3), (0, .class_ 4), (0, .nameAndType 5 6), (0, u "java/lang/Object"), (0, u "<init>"), (0, u "()V"), (0, .string 8), (0, u ""), (0, .fieldref 10 11), (0, .class_ 12), (0, .nameAndType 13 14), (0, u "java/lang/String"), (0, u "value"), (0, u "[B"), (0, .fieldref 10 16), (0, .nameAndType 17 18), (0, u "coder"), (0, u "B"), (2, u "hash"), (0, u "I"), (2, u "hashIsZero"), (0, u "Z"), (0, .methodref 10 28), (0, .nameAndType 5 29), (0, u "([CIILjava/lang/Void;)V"), (8, .fieldref 10 39), (0, .nameAndType 40 26), (0, u "COMPACT_STRINGS"), (1, .class_ 44), (1, u "java/lang/StringUTF16"), (0, u "compress"), (1, .methodref 42 48), (0, .nameAndType 49 50), (0, u "coderFromArrayLen"), (0, u "([BI)B"), (56, .class_ 109), (1, u "java/lang/StringLatin1"), (32, u "()Z"), (34, .methodref 42 178), (0, .nameAndType 45 179), (0, u "([CII)[B"), (154, u "()I"), (0, .methodref 10 336), (0, .nameAndType 17 337), (0, u "()B"), (25, u "([BI)C"), (27, u "(II)V"), (35, u "(I)C"), (64, .methodref 10 493), (0, .nameAndType 494 142), (0, u "isLatin1"), (0, .methodref 107 496), (0, .nameAndType 497 363), (0, u "charAt"), (3, u "checkIndex"), (5, u "length"), (33, .methodref 107 542), (0, .nameAndType 543 544), (0, u "equals"), (0, u "([B[B)Z"), (28, u "(Ljava/lang/Object;)Z"), (1, .class_ 576), (0, u "java/lang/CharSequence"), (22, u "CASE_INSENSITIVE_ORDER"), (0, u "Ljava/util/Comparator;"), (409, u "([C)V"), (42, .fieldref 1054 1055), (0, .class_ 1056), (0, .nameAndType 1057 1058), (0, u "jdk/internal/util/Preconditions"), (0, u "SIOOBE_FORMATTER"), (0, u "Ljava/util/function/BiFunction;"), (0, .methodref 1054 1060), (0, .nameAndType 501 1061), (0, u "(IILjava/util/function/BiFunction;)I"), (39, u "serialPersistentFields"), (0, u "[Ljava/io/ObjectStreamField;"), (0, .class_ 1104), (0, u "java/lang/String$CaseInsensitiveComparator"), (1, .class_ 1107), (0, u "java/io/Serializable"), (0, .class_ 1109), (0, u "java/lang/Comparable"), (0, .class_ 1111), (0, u "java/lang/constant/Constable"), (0, .class_ 1113), (0, u "java/lang/constant/ConstantDesc"), (2, u "serialVersionUID"), (0, u "J"), (3, u "REPL"), (0, u "C"), (2, u "LATIN1"), (1, u "UTF16")] 323

def k7m0 : Method := { name := "<init>", desc := "()V", sig := { parameters := [], returnType := none }, accessFlags := 1, code := none }
def k7c1 : Code := { maxStack := 5, maxLocals := 2, code := jdk_42_method_3_code, exceptionTable := #[], attributes := #[] }
def k7m1 : Method := { name := "<init>", desc := "([C)V", sig := { parameters := [(.array .char)], returnType := none }, accessFlags := 1, code := some k7c1 }
def k7c2 : Code := { maxStack := 2, maxLocals := 1, code := jdk_42_method_54_code, exceptionTable := #[], attributes := #[] }
def k7m2 : Method := { name := "length", desc := "()I", sig := { parameters := [], returnType := some .int }, accessFlags := 1, code := some k7c2 }
def k7c3 : Code := { maxStack := 2, maxLocals := 2, code := jdk_42_method_56_code, exceptionTable := #[], attributes := #[] }
def k7m3 : Method := { name := "charAt", desc := "(I)C", sig := { parameters := [.int], returnType := some .char }, accessFlags := 1, code := some k7c3 }
def k7c4 : Code := { maxStack := 2, maxLocals := 3, code := jdk_42_method_66_code, exceptionTable := #[], attributes := #[] }
def k7m4 : Method := { name := "equals", desc := "(Ljava/lang/Object;)Z", sig := { parameters := [(.object "java/lang/Object")], returnType := some .boolean }, accessFlags := 1, code := some k7c4 }
def k7c5 : Code := { maxStack := 4, maxLocals := 6, code := jdk_42_method_149_code, exceptionTable := #[], attributes := #[] }
def k7m5 : Method := { name := "<init>", desc := "([CIILjava/lang/Void;)V", sig := { parameters := [(.array .char), .int, .int, (.object "java/lang/Void")], returnType := none }, accessFlags := 2, code := some k7c5 }
def k7c6 : Code := { maxStack := 1, maxLocals := 1, code := jdk_42_method_152_code, exceptionTable := #[], attributes := #[] }
def k7m6 : Method := { name := "coder", desc := "()B", sig := { parameters := [], returnType := some .byte }, accessFlags := 0, code := some k7c6 }
def k7c7 : Code := { maxStack := 1, maxLocals := 1, code := jdk_42_method_154_code, exceptionTable := #[], attributes := #[] }
def k7m7 : Method := { name := "isLatin1", desc := "()Z", sig := { parameters := [], returnType := some .boolean }, accessFlags := 0, code := some k7c7 }
def k7c8 : Code := { maxStack := 3, maxLocals := 2, code := jdk_42_method_155_code, exceptionTable := #[], attributes := #[] }
def k7m8 : Method := { name := "checkIndex", desc := "(II)V", sig := { parameters := [.int, .int], returnType := none }, accessFlags := 8, code := some k7c8 }
/-- java/lang/String -/
def k7 : Class := { plain "java/lang/String" (some 0) with
  accessFlags := 49
  interfaces := #[2, 3, 4, 5, 6]
  cf := some (fileOf pool7 10 #[.nestMembers #[1103]] #[{ accessFlags := 1, nameIndex := 5, descriptorIndex := 6, attributes := #[] }, { accessFlags := 1, nameIndex := 5, descriptorIndex := 1010, attributes := #[] }, { accessFlags := 1, nameIndex := 507, descriptorIndex := 334, attributes := #[] }, { accessFlags := 1, nameIndex := 497, descriptorIndex := 427, attributes := #[] }, { accessFlags := 1, nameIndex := 543, descriptorIndex := 573, attributes := #[] }, { accessFlags := 2, nameIndex := 5, descriptorIndex := 29, attributes := #[] }, { accessFlags := 0, nameIndex := 17, descriptorIndex := 337, attributes := #[] }, { accessFlags := 0, nameIndex := 494, descriptorIndex := 142, attributes := #[] }, { accessFlags := 8, nameIndex := 501, descriptorIndex := 391, attributes := #[] }] 49 2 #[1106, 1108, 575, 1110, 1112] #[{ accessFlags := 18, nameIndex := 13, descriptorIndex := 14, attributes := #[] }, { accessFlags := 18, nameIndex := 17, descriptorIndex := 18, attributes := #[] }, { accessFlags := 2, nameIndex := 21, descriptorIndex := 22, attributes := #[] }, { accessFlags := 2, nameIndex := 25, descriptorIndex := 26, attributes := #[] }, { accessFlags := 26, nameIndex := 1116, descriptorIndex := 1117, attributes := #[] }, { accessFlags := 24, nameIndex := 40, descriptorIndex := 26, attributes := #[] }, { accessFlags := 26, nameIndex := 1101, descriptorIndex := 1102, attributes := #[] }, { accessFlags := 26, nameIndex := 1121, descriptorIndex := 1122, attributes := #[] }, { accessFlags := 25, nameIndex := 599, descriptorIndex := 600, attributes := #[] }, { accessFlags := 24, nameIndex := 1125, descriptorIndex := 18, attributes := #[] }, { accessFlags := 24, nameIndex := 1127, descriptorIndex := 18, attributes := #[] }])
  fields := #[{ name := "value", type := (.array .byte), accessFlags := 18, slot := 0, constantValue := 0 }, { name := "coder", type := .byte, accessFlags := 18, slot := 1, constantValue := 0 }, { name := "hash", type := .int, accessFlags := 2, slot := 2, constantValue := 0 }, { name := "hashIsZero", type := .boolean, accessFlags := 2, slot := 3, constantValue := 0 }, { name := "serialVersionUID", type := .long, accessFlags := 26, slot := 0, constantValue := 0 }, { name := "COMPACT_STRINGS", type := .boolean, accessFlags := 24, slot := 1, constantValue := 0 }, { name := "serialPersistentFields", type := (.array (.object "java/io/ObjectStreamField")), accessFlags := 26, slot := 2, constantValue := 0 }, { name := "REPL", type := .char, accessFlags := 26, slot := 3, constantValue := 0 }, { name := "CASE_INSENSITIVE_ORDER", type := (.object "java/util/Comparator"), accessFlags := 25, slot := 4, constantValue := 0 }, { name := "LATIN1", type := .byte, accessFlags := 24, slot := 5, constantValue := 0 }, { name := "UTF16", type := .byte, accessFlags := 24, slot := 6, constantValue := 0 }]
  methods := #[k7m0, k7m1, k7m2, k7m3, k7m4, k7m5, k7m6, k7m7, k7m8]
  instanceTypes := #[(.array .byte), .byte, .int, .boolean]
  staticTypes := #[.long, .boolean, (.array (.object "java/io/ObjectStreamField")), .char, (.object "java/util/Comparator"), .byte, .byte]
  resolved := Array.replicate 1451 none
  statics := some 0 }

def pool8 : Array CpInfo := pool [(1, .class_ 2), (0, u "java/lang/String"), (1, .class_ 6), (1, u "java/lang/Object"), (0, u "<init>"), (0, u "()V"), (0, .methodref 1 10), (0, .nameAndType 11 12), (0, u "checkIndex"), (0, u "(II)V"), (1, .class_ 16), (1, u "java/lang/StringLatin1"), (36, u "([BI)C"), (67, u "$assertionsDisabled"), (0, u "Z"), (98, .class_ 223), (1, u "java/lang/StringLatin1$LinesSpliterator"), (28, u "charAt"), (28, u "equals"), (0, u "([B[B)Z"), (107, .class_ 391), (0, u "java/lang/StringLatin1$CharsSpliterator")] 3

def k8m0 : Method := { name := "<init>", desc := "()V", sig := { parameters := [], returnType := none }, accessFlags := 0, code := none }
def k8c1 : Code := { maxStack := 2, maxLocals := 2, code := jdk_43_method_2_code, exceptionTable := #[], attributes := #[] }
def k8m1 : Method := { name := "charAt", desc := "([BI)C", sig := { parameters := [(.array .byte), .int], returnType := some .char }, accessFlags := 9, code := some k8c1 }
def k8c2 : Code := { maxStack := 3, maxLocals := 3, code := jdk_43_method_13_code, exceptionTable := #[], attributes := #[] }
def k8m2 : Method := { name := "equals", desc := "([B[B)Z", sig := { parameters := [(.array .byte), (.array .byte)], returnType := some .boolean }, accessFlags := 9, code := some k8c2 }
/-- java/lang/StringLatin1 -/
def k8 : Class := { plain "java/lang/StringLatin1" (some 0) with
  accessFlags := 48
  interfaces := #[]
  cf := some (fileOf pool8 14 #[.nestMembers #[390, 221]] #[{ accessFlags := 0, nameIndex := 7, descriptorIndex := 8, attributes := #[] }, { accessFlags := 9, nameIndex := 252, descriptorIndex := 53, attributes := #[] }, { accessFlags := 9, nameIndex := 281, descriptorIndex := 282, attributes := #[] }] 48 4 #[] #[{ accessFlags := 4120, nameIndex := 121, descriptorIndex := 122, attributes := #[] }])
  fields := #[{ name := "$assertionsDisabled", type := .boolean, accessFlags := 4120, slot := 0, constantValue := 0 }]
  methods := #[k8m0, k8m1, k8m2]
  instanceTypes := #[]
  staticTypes := #[.boolean]
  resolved := Array.replicate 395 none
  statics := none }

def pool9 : Array CpInfo := pool [(2, .class_ 4), (1, u "java/lang/Object"), (0, u "<init>"), (0, u "()V"), (17, .class_ 26), (1, u "jdk/internal/util/Preconditions"), (6, u "checkIndex"), (21, .class_ 56), (0, u "jdk/internal/util/Preconditions$4"), (57, .class_ 115), (0, u "jdk/internal/util/Preconditions$1"), (7, u "SIOOBE_FORMATTER"), (0, u "Ljava/util/function/BiFunction;"), (0, .class_ 126), (0, u "jdk/internal/util/Preconditions$2"), (3, u "AIOOBE_FORMATTER"), (0, .class_ 132), (0, u "jdk/internal/util/Preconditions$3"), (3, u "IOOBE_FORMATTER"), (41, u "(IILjava/util/function/BiFunction;)I")] 15

def k9m0 : Method := { name := "<init>", desc := "()V", sig := { parameters := [], returnType := none }, accessFlags := 1, code := none }
def k9c1 : Code := { maxStack := 3, maxLocals := 3, code := jdk_41_method_11_code, exceptionTable := #[], attributes := #[] }
def k9m1 : Method := { name := "checkIndex", desc := "(IILjava/util/function/BiFunction;)I", sig := { parameters := [.int, .int, (.object "java/util/function/BiFunction")], returnType := some .int }, accessFlags := 9, code := some k9c1 }
/-- jdk/internal/util/Preconditions -/
def k9 : Class := { plain "jdk/internal/util/Preconditions" (some 0) with
  accessFlags := 33
  interfaces := #[]
  cf := some (fileOf pool9 24 #[.nestMembers #[55, 131, 125, 114]] #[{ accessFlags := 1, nameIndex := 5, descriptorIndex := 6, attributes := #[] }, { accessFlags := 9, nameIndex := 33, descriptorIndex := 178, attributes := #[] }] 33 2 #[] #[{ accessFlags := 25, nameIndex := 123, descriptorIndex := 124, attributes := #[] }, { accessFlags := 25, nameIndex := 130, descriptorIndex := 124, attributes := #[] }, { accessFlags := 25, nameIndex := 136, descriptorIndex := 124, attributes := #[] }])
  fields := #[{ name := "SIOOBE_FORMATTER", type := (.object "java/util/function/BiFunction"), accessFlags := 25, slot := 0, constantValue := 0 }, { name := "AIOOBE_FORMATTER", type := (.object "java/util/function/BiFunction"), accessFlags := 25, slot := 1, constantValue := 0 }, { name := "IOOBE_FORMATTER", type := (.object "java/util/function/BiFunction"), accessFlags := 25, slot := 2, constantValue := 0 }]
  methods := #[k9m0, k9m1]
  instanceTypes := #[]
  staticTypes := #[(.object "java/util/function/BiFunction"), (.object "java/util/function/BiFunction"), (.object "java/util/function/BiFunction")]
  resolved := Array.replicate 194 none
  statics := some 1 }

def pool10 : Array CpInfo := pool [(2, .class_ 4), (1, u "java/lang/Enum"), (0, u "name"), (0, u "Ljava/lang/String;"), (2, u "ordinal"), (0, u "I"), (1, .class_ 14), (1, u "java/lang/Object"), (4, u "hash"), (86, .class_ 108), (1, u "java/lang/Enum$EnumDesc"), (2, .class_ 112), (0, u "java/lang/constant/Constable"), (0, .class_ 114), (0, u "java/lang/Comparable"), (0, .class_ 116), (0, u "java/io/Serializable")] 87

/-- java/lang/Enum -/
def k10 : Class := { plain "java/lang/Enum" (some 0) with
  accessFlags := 1057
  interfaces := #[5, 3, 2]
  cf := some (fileOf pool10 2 #[.nestMembers #[106]] #[] 1057 12 #[111, 113, 115] #[{ accessFlags := 18, nameIndex := 5, descriptorIndex := 6, attributes := #[] }, { accessFlags := 18, nameIndex := 9, descriptorIndex := 10, attributes := #[] }, { accessFlags := 2, nameIndex := 19, descriptorIndex := 10, attributes := #[] }])
  fields := #[{ name := "name", type := (.object "java/lang/String"), accessFlags := 18, slot := 0, constantValue := 0 }, { name := "ordinal", type := .int, accessFlags := 18, slot := 1, constantValue := 0 }, { name := "hash", type := .int, accessFlags := 2, slot := 2, constantValue := 0 }]
  methods := #[]
  instanceTypes := #[(.object "java/lang/String"), .int, .int]
  staticTypes := #[]
  resolved := Array.replicate 204 none
  statics := none }

def pool11 : Array CpInfo := pool [(1, .class_ 2), (0, u "com/example/serialis/serialis/marc/MarcFormat"), (2, u "MARC21"), (0, u "Lcom/example/serialis/serialis/marc/MarcFormat;"), (2, u "UNIMARC"), (0, .fieldref 1 11), (0, .nameAndType 12 13), (0, u "$VALUES"), (0, u "[Lcom/example/serialis/serialis/marc/MarcFormat;"), (0, .methodref 15 16), (0, .class_ 13), (0, .nameAndType 17 18), (0, u "clone"), (0, u "()Ljava/lang/Object;"), (1, .class_ 22), (1, u "java/lang/Enum"), (6, .fieldref 1 30), (0, .nameAndType 31 32), (0, u "label"), (0, u "Ljava/lang/String;"), (2, u "titleTag"), (2, u "issnTag"), (2, u "issnSubfields"), (0, u "Ljava/util/Map;"), (2, u "keyTitleTag"), (2, u "abbreviatedKeyTitleTag"), (2, u "descriptiveFields"), (0, .methodref 53 54), (0, .class_ 55), (0, .nameAndType 56 57), (0, u "java/lang/String"), (0, u "equals"), (0, u "(Ljava/lang/Object;)Z"), (11, .class_ 70), (0, u "com/example/serialis/serialis/marc/MarcFormat$IssnSubfield"), (1, .class_ 74), (1, u "java/util/Optional"), (1, u "(Ljava/lang/Object;)Ljava/util/Optional;"), (0, .methodref 72 78), (0, .nameAndType 79 80), (0, u "empty"), (0, u "()Ljava/util/Optional;"), (0, .methodref 1 82), (0, .nameAndType 83 84), (0, u "values"), (0, u "()[Lcom/example/serialis/serialis/marc/MarcFormat;"), (0, .methodref 72 86), (0, .nameAndType 87 76), (0, u "of"), (286, u "TITLE"), (0, u "C"), (2, u "QUALIFIER"), (13, u "byLabel"), (0, u "(Ljava/lang/String;)Ljava/util/Optional;")] 52

def k11c0 : Code := { maxStack := 1, maxLocals := 0, code := prog_43_method_1_code, exceptionTable := #[], attributes := #[] }
def k11m0 : Method := { name := "values", desc := "()[Lcom/example/serialis/serialis/marc/MarcFormat;", sig := { parameters := [], returnType := some (.array (.object "com/example/serialis/serialis/marc/MarcFormat")) }, accessFlags := 9, code := some k11c0 }
def k11c1 : Code := { maxStack := 2, maxLocals := 5, code := prog_43_method_7_code, exceptionTable := #[], attributes := #[] }
def k11m1 : Method := { name := "byLabel", desc := "(Ljava/lang/String;)Ljava/util/Optional;", sig := { parameters := [(.object "java/lang/String")], returnType := some (.object "java/util/Optional") }, accessFlags := 9, code := some k11c1 }
/-- com/example/serialis/serialis/marc/MarcFormat -/
def k11 : Class := { plain "com/example/serialis/serialis/marc/MarcFormat" (some 10) with
  accessFlags := 16433
  interfaces := #[]
  cf := some (fileOf pool11 1 #[.nestMembers #[69]] #[{ accessFlags := 9, nameIndex := 83, descriptorIndex := 84, attributes := #[] }, { accessFlags := 9, nameIndex := 392, descriptorIndex := 393, attributes := #[] }] 16433 20 #[] #[{ accessFlags := 16409, nameIndex := 5, descriptorIndex := 6, attributes := #[] }, { accessFlags := 16409, nameIndex := 9, descriptorIndex := 6, attributes := #[] }, { accessFlags := 26, nameIndex := 374, descriptorIndex := 375, attributes := #[] }, { accessFlags := 26, nameIndex := 378, descriptorIndex := 375, attributes := #[] }, { accessFlags := 18, nameIndex := 31, descriptorIndex := 32, attributes := #[] }, { accessFlags := 18, nameIndex := 35, descriptorIndex := 32, attributes := #[] }, { accessFlags := 18, nameIndex := 38, descriptorIndex := 32, attributes := #[] }, { accessFlags := 18, nameIndex := 41, descriptorIndex := 42, attributes := #[] }, { accessFlags := 18, nameIndex := 45, descriptorIndex := 32, attributes := #[] }, { accessFlags := 18, nameIndex := 48, descriptorIndex := 32, attributes := #[] }, { accessFlags := 18, nameIndex := 51, descriptorIndex := 42, attributes := #[] }, { accessFlags := 4122, nameIndex := 12, descriptorIndex := 13, attributes := #[] }])
  fields := #[{ name := "MARC21", type := (.object "com/example/serialis/serialis/marc/MarcFormat"), accessFlags := 16409, slot := 0, constantValue := 0 }, { name := "UNIMARC", type := (.object "com/example/serialis/serialis/marc/MarcFormat"), accessFlags := 16409, slot := 1, constantValue := 0 }, { name := "TITLE", type := .char, accessFlags := 26, slot := 2, constantValue := 0 }, { name := "QUALIFIER", type := .char, accessFlags := 26, slot := 3, constantValue := 0 }, { name := "label", type := (.object "java/lang/String"), accessFlags := 18, slot := 3, constantValue := 0 }, { name := "titleTag", type := (.object "java/lang/String"), accessFlags := 18, slot := 4, constantValue := 0 }, { name := "issnTag", type := (.object "java/lang/String"), accessFlags := 18, slot := 5, constantValue := 0 }, { name := "issnSubfields", type := (.object "java/util/Map"), accessFlags := 18, slot := 6, constantValue := 0 }, { name := "keyTitleTag", type := (.object "java/lang/String"), accessFlags := 18, slot := 7, constantValue := 0 }, { name := "abbreviatedKeyTitleTag", type := (.object "java/lang/String"), accessFlags := 18, slot := 8, constantValue := 0 }, { name := "descriptiveFields", type := (.object "java/util/Map"), accessFlags := 18, slot := 9, constantValue := 0 }, { name := "$VALUES", type := (.array (.object "com/example/serialis/serialis/marc/MarcFormat")), accessFlags := 4122, slot := 4, constantValue := 0 }]
  methods := #[k11m0, k11m1]
  instanceTypes := #[(.object "java/lang/String"), .int, .int, (.object "java/lang/String"), (.object "java/lang/String"), (.object "java/lang/String"), (.object "java/util/Map"), (.object "java/lang/String"), (.object "java/lang/String"), (.object "java/util/Map")]
  staticTypes := #[(.object "com/example/serialis/serialis/marc/MarcFormat"), (.object "com/example/serialis/serialis/marc/MarcFormat"), .char, .char, (.array (.object "com/example/serialis/serialis/marc/MarcFormat"))]
  resolved := Array.replicate 446 none
  statics := some 2 }

def pool12 : Array CpInfo := pool [(1, .class_ 2), (0, u "java/lang/Cloneable"), (0, .class_ 4), (0, u "java/lang/Object")] 2

/-- java/lang/Cloneable -/
def k12 : Class := { plain "java/lang/Cloneable" (some 0) with
  accessFlags := 1537
  interfaces := #[]
  cf := some (fileOf pool12 1 #[] #[] 1537 3 #[] #[])
  fields := #[]
  methods := #[]
  instanceTypes := #[]
  staticTypes := #[]
  resolved := Array.replicate 7 none
  statics := none }

def pool13 : Array CpInfo := pool [(1, .fieldref 2 3), (0, .class_ 4), (0, .nameAndType 5 6), (0, u "java/util/Optional"), (0, u "EMPTY"), (0, u "Ljava/util/Optional;"), (0, .methodref 8 9), (0, .class_ 10), (0, .nameAndType 11 12), (0, u "java/lang/Object"), (0, u "<init>"), (0, u "()V"), (0, .fieldref 2 14), (0, .nameAndType 15 16), (0, u "value"), (0, u "Ljava/lang/Object;"), (0, .methodref 18 19), (0, .class_ 20), (0, .nameAndType 21 22), (0, u "java/util/Objects"), (0, u "requireNonNull"), (0, u "(Ljava/lang/Object;)Ljava/lang/Object;"), (0, .methodref 2 24), (0, .nameAndType 11 25), (0, u "(Ljava/lang/Object;)V"), (20, u "()Z"), (8, u "empty"), (0, u "()Ljava/util/Optional;"), (8, u "(Ljava/lang/Object;)Ljava/util/Optional;"), (2, u "isPresent"), (4, u "get"), (0, u "()Ljava/lang/Object;"), (7, u "of")] 104

def k13c0 : Code := { maxStack := 1, maxLocals := 1, code := jdk_32_method_1_code, exceptionTable := #[], attributes := #[] }
def k13m0 : Method := { name := "empty", desc := "()Ljava/util/Optional;", sig := { parameters := [], returnType := some (.object "java/util/Optional") }, accessFlags := 9, code := some k13c0 }
def k13c1 : Code := { maxStack := 2, maxLocals := 2, code := jdk_32_method_2_code, exceptionTable := #[], attributes := #[] }
def k13m1 : Method := { name := "<init>", desc := "(Ljava/lang/Object;)V", sig := { parameters := [(.object "java/lang/Object")], returnType := none }, accessFlags := 2, code := some k13c1 }
def k13c2 : Code := { maxStack := 3, maxLocals := 1, code := jdk_32_method_3_code, exceptionTable := #[], attributes := #[] }
def k13m2 : Method := { name := "of", desc := "(Ljava/lang/Object;)Ljava/util/Optional;", sig := { parameters := [(.object "java/lang/Object")], returnType := some (.object "java/util/Optional") }, accessFlags := 9, code := some k13c2 }
def k13c3 : Code := { maxStack := 3, maxLocals := 1, code := jdk_32_method_5_code, exceptionTable := #[], attributes := #[] }
def k13m3 : Method := { name := "get", desc := "()Ljava/lang/Object;", sig := { parameters := [], returnType := some (.object "java/lang/Object") }, accessFlags := 1, code := some k13c3 }
def k13c4 : Code := { maxStack := 1, maxLocals := 1, code := jdk_32_method_6_code, exceptionTable := #[], attributes := #[] }
def k13m4 : Method := { name := "isPresent", desc := "()Z", sig := { parameters := [], returnType := some .boolean }, accessFlags := 1, code := some k13c4 }
/-- java/util/Optional -/
def k13 : Class := { plain "java/util/Optional" (some 0) with
  accessFlags := 49
  interfaces := #[]
  cf := some (fileOf pool13 2 #[] #[{ accessFlags := 9, nameIndex := 55, descriptorIndex := 56, attributes := #[] }, { accessFlags := 2, nameIndex := 11, descriptorIndex := 25, attributes := #[] }, { accessFlags := 9, nameIndex := 82, descriptorIndex := 65, attributes := #[] }, { accessFlags := 1, nameIndex := 73, descriptorIndex := 74, attributes := #[] }, { accessFlags := 1, nameIndex := 68, descriptorIndex := 46, attributes := #[] }] 49 8 #[] #[{ accessFlags := 26, nameIndex := 5, descriptorIndex := 6, attributes := #[] }, { accessFlags := 18, nameIndex := 15, descriptorIndex := 16, attributes := #[] }])
  fields := #[{ name := "EMPTY", type := (.object "java/util/Optional"), accessFlags := 26, slot := 0, constantValue := 0 }, { name := "value", type := (.object "java/lang/Object"), accessFlags := 18, slot := 0, constantValue := 0 }]
  methods := #[k13m0, k13m1, k13m2, k13m3, k13m4]
  instanceTypes := #[(.object "java/lang/Object")]
  staticTypes := #[(.object "java/util/Optional")]
  resolved := Array.replicate 187 none
  statics := some 3 }

def pool14 : Array CpInfo := pool [(6, .class_ 8), (1, u "java/lang/Object"), (0, u "<init>"), (0, u "()V"), (1, .class_ 14), (1, u "java/lang/StringUTF16"), (31, u "$assertionsDisabled"), (0, u "Z"), (13, u "HI_BYTE_SHIFT"), (0, u "I"), (2, u "LO_BYTE_SHIFT"), (49, .methodref 12 116), (0, .nameAndType 117 118), (0, u "compress"), (0, u "([CI[BII)I"), (3, u "([CII)[B"), (138, u "coderFromArrayLen"), (0, u "([BI)B"), (106, .class_ 371), (1, u "java/lang/StringUTF16$LinesSpliterator"), (58, u "MAX_LENGTH"), (196, .class_ 628), (0, u "java/lang/StringUTF16$CodePointsSpliterator"), (0, .class_ 630), (0, u "java/lang/StringUTF16$CharsSpliterator")] 4

def k14m0 : Method := { name := "<init>", desc := "()V", sig := { parameters := [], returnType := none }, accessFlags := 0, code := none }
def k14c1 : Code := { maxStack := 2, maxLocals := 2, code := jdk_52_method_15_code, exceptionTable := #[], attributes := #[] }
def k14m1 : Method := { name := "coderFromArrayLen", desc := "([BI)B", sig := { parameters := [(.array .byte), .int], returnType := some .byte }, accessFlags := 8, code := some k14c1 }
def k14c2 : Code := { maxStack := 5, maxLocals := 6, code := jdk_52_method_16_code, exceptionTable := #[], attributes := #[] }
def k14m2 : Method := { name := "compress", desc := "([CII)[B", sig := { parameters := [(.array .char), .int, .int], returnType := some (.array .byte) }, accessFlags := 9, code := some k14c2 }
def k14c3 : Code := { maxStack := 3, maxLocals := 7, code := jdk_52_method_21_code, exceptionTable := #[], attributes := #[] }
def k14m3 : Method := { name := "compress", desc := "([CI[BII)I", sig := { parameters := [(.array .char), .int, (.array .byte), .int, .int], returnType := some .int }, accessFlags := 9, code := some k14c3 }
/-- java/lang/StringUTF16 -/
def k14 : Class := { plain "java/lang/StringUTF16" (some 0) with
  accessFlags := 48
  interfaces := #[]
  cf := some (fileOf pool14 12 #[.nestMembers #[627, 629, 369]] #[{ accessFlags := 0, nameIndex := 9, descriptorIndex := 10, attributes := #[] }, { accessFlags := 8, nameIndex := 261, descriptorIndex := 262, attributes := #[] }, { accessFlags := 9, nameIndex := 117, descriptorIndex := 122, attributes := #[] }, { accessFlags := 9, nameIndex := 117, descriptorIndex := 118, attributes := #[] }] 48 6 #[] #[{ accessFlags := 26, nameIndex := 61, descriptorIndex := 62, attributes := #[] }, { accessFlags := 26, nameIndex := 65, descriptorIndex := 62, attributes := #[] }, { accessFlags := 24, nameIndex := 430, descriptorIndex := 62, attributes := #[] }, { accessFlags := 4120, nameIndex := 46, descriptorIndex := 47, attributes := #[] }])
  fields := #[{ name := "HI_BYTE_SHIFT", type := .int, accessFlags := 26, slot := 0, constantValue := 0 }, { name := "LO_BYTE_SHIFT", type := .int, accessFlags := 26, slot := 1, constantValue := 0 }, { name := "MAX_LENGTH", type := .int, accessFlags := 24, slot := 2, constantValue := 0 }, { name := "$assertionsDisabled", type := .boolean, accessFlags := 4120, slot := 3, constantValue := 0 }]
  methods := #[k14m0, k14m1, k14m2, k14m3]
  instanceTypes := #[]
  staticTypes := #[.int, .int, .int, .boolean]
  resolved := Array.replicate 635 none
  statics := none }

def pool15 : Array CpInfo := pool [(2, .class_ 4), (1, u "java/lang/Object"), (0, u "<init>"), (0, u "()V"), (35, .class_ 44), (1, u "java/util/Objects"), (0, u "requireNonNull"), (0, u "(Ljava/lang/Object;)Ljava/lang/Object;")] 137

def k15m0 : Method := { name := "<init>", desc := "()V", sig := { parameters := [], returnType := none }, accessFlags := 2, code := none }
def k15c1 : Code := { maxStack := 2, maxLocals := 1, code := jdk_31_method_10_code, exceptionTable := #[], attributes := #[] }
def k15m1 : Method := { name := "requireNonNull", desc := "(Ljava/lang/Object;)Ljava/lang/Object;", sig := { parameters := [(.object "java/lang/Object")], returnType := some (.object "java/lang/Object") }, accessFlags := 9, code := some k15c1 }
/-- java/util/Objects -/
def k15 : Class := { plain "java/util/Objects" (some 0) with
  accessFlags := 49
  interfaces := #[]
  cf := some (fileOf pool15 42 #[] #[{ accessFlags := 2, nameIndex := 5, descriptorIndex := 6, attributes := #[] }, { accessFlags := 9, nameIndex := 45, descriptorIndex := 46, attributes := #[] }] 49 2 #[] #[])
  fields := #[]
  methods := #[k15m0, k15m1]
  instanceTypes := #[]
  staticTypes := #[]
  resolved := Array.replicate 184 none
  statics := none }

def pool16 : Array CpInfo := pool [(9, u "<init>"), (6, .class_ 18), (1, u "java/lang/Object"), (0, u "()V"), (1, .class_ 23), (1, u "jdk/internal/util/ArraysSupport"), (0, u "LOG2_ARRAY_LONG_INDEX_SCALE"), (0, u "I"), (2, u "U"), (0, u "Ljdk/internal/misc/Unsafe;"), (8, u "BIG_ENDIAN"), (0, u "Z"), (8, u "LOG2_BYTE_BIT_SIZE"), (4, u "LOG2_ARRAY_INT_INDEX_SCALE"), (54, u "JLA"), (0, u "Ljdk/internal/access/JavaLangAccess;"), (11, u "LOG2_ARRAY_BOOLEAN_INDEX_SCALE"), (9, u "LOG2_ARRAY_BYTE_INDEX_SCALE"), (5, u "LOG2_ARRAY_CHAR_INDEX_SCALE"), (5, u "LOG2_ARRAY_SHORT_INDEX_SCALE"), (18, u "LOG2_ARRAY_FLOAT_INDEX_SCALE"), (24, u "LOG2_ARRAY_DOUBLE_INDEX_SCALE"), (89, u "T_BOOLEAN"), (2, u "T_CHAR"), (1, u "T_FLOAT"), (1, u "T_DOUBLE"), (1, u "T_BYTE"), (1, u "T_SHORT"), (1, u "T_INT"), (1, u "T_LONG"), (1, u "SOFT_MAX_ARRAY_LENGTH")] 83

def k16m0 : Method := { name := "<init>", desc := "()V", sig := { parameters := [], returnType := none }, accessFlags := 2, code := none }
/-- jdk/internal/util/ArraysSupport -/
def k16 : Class := { plain "jdk/internal/util/ArraysSupport" (some 0) with
  accessFlags := 33
  interfaces := #[]
  cf := some (fileOf pool16 21 #[] #[{ accessFlags := 2, nameIndex := 9, descriptorIndex := 19, attributes := #[] }] 33 16 #[] #[{ accessFlags := 24, nameIndex := 28, descriptorIndex := 29, attributes := #[] }, { accessFlags := 26, nameIndex := 38, descriptorIndex := 39, attributes := #[] }, { accessFlags := 25, nameIndex := 121, descriptorIndex := 25, attributes := #[] }, { accessFlags := 25, nameIndex := 131, descriptorIndex := 25, attributes := #[] }, { accessFlags := 25, nameIndex := 137, descriptorIndex := 25, attributes := #[] }, { accessFlags := 25, nameIndex := 143, descriptorIndex := 25, attributes := #[] }, { accessFlags := 25, nameIndex := 53, descriptorIndex := 25, attributes := #[] }, { accessFlags := 25, nameIndex := 24, descriptorIndex := 25, attributes := #[] }, { accessFlags := 25, nameIndex := 162, descriptorIndex := 25, attributes := #[] }, { accessFlags := 25, nameIndex := 187, descriptorIndex := 25, attributes := #[] }, { accessFlags := 26, nameIndex := 48, descriptorIndex := 25, attributes := #[] }, { accessFlags := 25, nameIndex := 277, descriptorIndex := 25, attributes := #[] }, { accessFlags := 25, nameIndex := 280, descriptorIndex := 25, attributes := #[] }, { accessFlags := 25, nameIndex := 282, descriptorIndex := 25, attributes := #[] }, { accessFlags := 25, nameIndex := 284, descriptorIndex := 25, attributes := #[] }, { accessFlags := 25, nameIndex := 286, descriptorIndex := 25, attributes := #[] }, { accessFlags := 25, nameIndex := 288, descriptorIndex := 25, attributes := #[] }, { accessFlags := 25, nameIndex := 290, descriptorIndex := 25, attributes := #[] }, { accessFlags := 25, nameIndex := 292, descriptorIndex := 25, attributes := #[] }, { accessFlags := 26, nameIndex := 108, descriptorIndex := 109, attributes := #[] }, { accessFlags := 25, nameIndex := 294, descriptorIndex := 25, attributes := #[] }])
  fields := #[{ name := "U", type := (.object "jdk/internal/misc/Unsafe"), accessFlags := 24, slot := 0, constantValue := 0 }, { name := "BIG_ENDIAN", type := .boolean, accessFlags := 26, slot := 1, constantValue := 0 }, { name := "LOG2_ARRAY_BOOLEAN_INDEX_SCALE", type := .int, accessFlags := 25, slot := 2, constantValue := 0 }, { name := "LOG2_ARRAY_BYTE_INDEX_SCALE", type := .int, accessFlags := 25, slot := 3, constantValue := 0 }, { name := "LOG2_ARRAY_CHAR_INDEX_SCALE", type := .int, accessFlags := 25, slot := 4, constantValue := 0 }, { name := "LOG2_ARRAY_SHORT_INDEX_SCALE", type := .int, accessFlags := 25, slot := 5, constantValue := 0 }, { name := "LOG2_ARRAY_INT_INDEX_SCALE", type := .int, accessFlags := 25, slot := 6, constantValue := 0 }, { name := "LOG2_ARRAY_LONG_INDEX_SCALE", type := .int, accessFlags := 25, slot := 7, constantValue := 0 }, { name := "LOG2_ARRAY_FLOAT_INDEX_SCALE", type := .int, accessFlags := 25, slot := 8, constantValue := 0 }, { name := "LOG2_ARRAY_DOUBLE_INDEX_SCALE", type := .int, accessFlags := 25, slot := 9, constantValue := 0 }, { name := "LOG2_BYTE_BIT_SIZE", type := .int, accessFlags := 26, slot := 10, constantValue := 0 }, { name := "T_BOOLEAN", type := .int, accessFlags := 25, slot := 11, constantValue := 0 }, { name := "T_CHAR", type := .int, accessFlags := 25, slot := 12, constantValue := 0 }, { name := "T_FLOAT", type := .int, accessFlags := 25, slot := 13, constantValue := 0 }, { name := "T_DOUBLE", type := .int, accessFlags := 25, slot := 14, constantValue := 0 }, { name := "T_BYTE", type := .int, accessFlags := 25, slot := 15, constantValue := 0 }, { name := "T_SHORT", type := .int, accessFlags := 25, slot := 16, constantValue := 0 }, { name := "T_INT", type := .int, accessFlags := 25, slot := 17, constantValue := 0 }, { name := "T_LONG", type := .int, accessFlags := 25, slot := 18, constantValue := 0 }, { name := "JLA", type := (.object "jdk/internal/access/JavaLangAccess"), accessFlags := 26, slot := 19, constantValue := 0 }, { name := "SOFT_MAX_ARRAY_LENGTH", type := .int, accessFlags := 25, slot := 20, constantValue := 0 }]
  methods := #[k16m0]
  instanceTypes := #[]
  staticTypes := #[(.object "jdk/internal/misc/Unsafe"), .boolean, .int, .int, .int, .int, .int, .int, .int, .int, .int, .int, .int, .int, .int, .int, .int, .int, .int, (.object "jdk/internal/access/JavaLangAccess"), .int]
  resolved := Array.replicate 378 none
  statics := none }

/-- the primitive byte -/
def k17 : Class := { plain "byte" none with kind := .primitive 'B', accessFlags := 0x411 }
/-- [B -/
def k18 : Class := { plain "[B" (some 0) with kind := .array 17 .byte, interfaces := #[12, 2], accessFlags := 1041 }

/-- the primitive char -/
def k19 : Class := { plain "char" none with kind := .primitive 'C', accessFlags := 0x411 }
/-- [C -/
def k20 : Class := { plain "[C" (some 0) with kind := .array 19 .char, interfaces := #[12, 2], accessFlags := 1041 }

/-- the primitive int -/
def k21 : Class := { plain "int" none with kind := .primitive 'I', accessFlags := 0x411 }
/-- [I -/
def k22 : Class := { plain "[I" (some 0) with kind := .array 21 .int, interfaces := #[12, 2], accessFlags := 1041 }

/-- [Lcom/example/serialis/serialis/marc/MarcFormat; -/
def k23 : Class := { plain "[Lcom/example/serialis/serialis/marc/MarcFormat;" (some 0) with kind := .array 11 (.object "com/example/serialis/serialis/marc/MarcFormat"), interfaces := #[12, 2], accessFlags := 1041 }

def heap : Heap := #[{ cls := 7, slots := #[.long 0, .int 1, .null, .int 0, .null, .int 0, .int 0], vm := .statics 7 },
  { cls := 9, slots := #[.null, .null, .null], vm := .statics 9 },
  { cls := 11, slots := #[.ref 5, .ref 6, .int 0, .int 0, .ref 4], vm := .statics 11 },
  { cls := 13, slots := #[.ref 11], vm := .statics 13 },
  { cls := 23, slots := #[.ref 5, .ref 6], vm := .none },
  { cls := 11, slots := #[.null, .int 0, .int 0, .ref 7, .null, .null, .null, .null, .null, .null], vm := .none },
  { cls := 11, slots := #[.null, .int 1, .int 0, .ref 8, .null, .null, .null, .null, .null, .null], vm := .none },
  { cls := 7, slots := #[.ref 9, .int 0, .int 0, .int 0], vm := .none },
  { cls := 7, slots := #[.ref 10, .int 0, .int 0, .int 0], vm := .none },
  { cls := 18, slots := #[.int 109, .int 97, .int 114, .int 99, .int 50, .int 49], vm := .none },
  { cls := 18, slots := #[.int 117, .int 110, .int 105, .int 109, .int 97, .int 114, .int 99], vm := .none },
  { cls := 13, slots := #[.null], vm := .none }]
def classes : Array Class := #[k0, k1, k2, k3, k4, k5, k6, k7, k8, k9, k10, k11, k12, k13, k14, k15, k16, k17, k18, k19, k20, k21, k22, k23]
def interned : List (Array UInt16 × Addr) := []
def slotsUsed : Nat := 60
def theMethod : MethodId := ⟨1, 3⟩
def args0 : Array Value := #[.int 5, .int 6, .int 7, .int 1, .int 2]
def aboutOver (below : List Frame) : State where
  vm := { classes := classes, interned := interned.toArray }
  heap := heap
  slotsUsed := slotsUsed
  threads := #[{ frames := .invoking theMethod args0 :: below }]
def below0 : List Frame := [.native { method := ⟨0, 0⟩, args := #[] }]
def about1 : State := aboutOver below0
def p0 : Program := .bare "" "" ""
def e0 : Env := launch0.env 0 0 0
theorem w_frames : about1.frames = Frame.invoking theMethod args0 :: below0 := rfl
set_option maxRecDepth 65536 in
theorem w_args : argsFit about1.vm theMethod args0 = true := by decide +kernel
set_option maxRecDepth 65536 in
theorem w_heap : heapFits about1 = true := by decide +kernel
set_option maxRecDepth 65536 in
theorem w_runnable : about1.curStatus? = some .runnable := by decide +kernel
set_option maxRecDepth 65536 in
theorem w_alone : about1.alone = true := by decide +kernel
set_option maxRecDepth 65536 in
theorem w_named : about1.methodNamed? x = some theMethod := by decide +kernel
set_option maxRecDepth 65536 in
theorem w_hears : about1.hears theMethod below0 = true := by decide +kernel
set_option maxRecDepth 65536 in
theorem w_ripe : about1.ripe theMethod args0 below0 = true := by decide +kernel
theorem w_running : about1.status = .running := rfl
set_option maxRecDepth 65536 in
theorem w_room : about1.hasRoom e0.platform room_1 = true :=
  launch0.hasRoom_least _ room_1 (by decide +kernel) (by decide +kernel) (by decide +kernel) (by decide +kernel) (by decide +kernel) (by decide +kernel)
theorem allAtoms_all (ts : List Jvm.Cond) (a : Array Jvm.Value) (st : Jvm.State) : (allAtoms ts).before a st = ts.all (fun c => c.before a st) := by
  induction ts with
  | nil => rfl
  | cons c t ih =>
    show (Jvm.Cond.and c (allAtoms t)).before a st = _
    rw [Jvm.Cond.before_and, ih, List.all_cons]
def words1 : List Jvm.Cond := Jvm.Cond.code x code maxLocals ret :: tables_1
/-- a 'code' word, met by the world's own term for the bytes: nothing is compared byte by byte -/
theorem code_word {y : MethodName} {bytes : ByteArray} {mx : Nat} {rt : Option FieldType} {a : Array Value} {s : State} {m : MethodId} {meth : Method} {c : Code} (h1 : s.methodNamed? y = some m) (h2 : s.vm.method? m = some meth) (h3 : meth.code = some c) (h4 : c.code = bytes)
    (h5 : (c.maxLocals == mx && c.exceptionTable.isEmpty && decide (c.maxStack ≤ mostOperands) && decide (meth.sig.returnType = rt) && !meth.locks && decide (parseMethodDescriptor y.desc = some meth.sig)) = true) : (Jvm.Cond.code y bytes mx rt).before a s = true := by
  simp only [Bool.and_eq_true, beq_iff_eq, Bool.not_eq_true', decide_eq_true_eq] at h5
  obtain ⟨⟨⟨⟨⟨g1, g2⟩, g3⟩, g4⟩, g5⟩, g6⟩ := h5
  simp [Cond.before, Cond.holds, Cond.value, h1, h2, h3, h4, g1, g2, g3, g4, g5, g6]
def isCode : Jvm.Cond → Bool
  | .code _ _ _ _ => true
  | _ => false
theorem all_split {L : List Jvm.Cond} {P : Jvm.Cond → Bool} (h1 : L.all (fun c => isCode c || P c) = true) (h2 : ∀ c ∈ L.filter isCode, P c = true) : L.all P = true := by
  refine List.all_eq_true.mpr fun c hc => ?_
  have h := List.all_eq_true.mp h1 c hc
  rcases Bool.eq_false_or_eq_true (isCode c) with hi | hi
  · exact h2 c (List.mem_filter.mpr ⟨hc, hi⟩)
  · simpa [hi] using h
set_option maxRecDepth 65536 in
theorem w_c0 : (Jvm.Cond.code x code maxLocals ret).before args0 about1 = true := code_word (m := ⟨1, 3⟩) (meth := k1m3) (c := k1c3) (by decide +kernel) rfl rfl rfl (by decide +kernel)
set_option maxRecDepth 65536 in
theorem w_c1 : (Jvm.Cond.code ({ cls := "java/lang/String", name := "length", desc := "()I" } : Jvm.MethodName) jdk_42_method_54_code (1 : Nat) (Option.some Jvm.ClassFile.FieldType.int)).before args0 about1 = true := code_word (m := ⟨7, 2⟩) (meth := k7m2) (c := k7c2) (by decide +kernel) rfl rfl rfl (by decide +kernel)
set_option maxRecDepth 65536 in
theorem w_c2 : (Jvm.Cond.code ({ cls := "java/lang/String", name := "coder", desc := "()B" } : Jvm.MethodName) jdk_42_method_152_code (1 : Nat) (Option.some Jvm.ClassFile.FieldType.byte)).before args0 about1 = true := code_word (m := ⟨7, 6⟩) (meth := k7m6) (c := k7c6) (by decide +kernel) rfl rfl rfl (by decide +kernel)
set_option maxRecDepth 65536 in
theorem w_c3 : (Jvm.Cond.code ({ cls := "com/example/serialis/serialis/marc/MarcFormatByLabelPinLaw", name := "at", desc := "(Ljava/lang/String;IC)C" } : Jvm.MethodName) method_2_code (3 : Nat) (Option.some Jvm.ClassFile.FieldType.char)).before args0 about1 = true := code_word (m := ⟨1, 1⟩) (meth := k1m1) (c := k1c1) (by decide +kernel) rfl rfl rfl (by decide +kernel)
set_option maxRecDepth 65536 in
theorem w_c4 : (Jvm.Cond.code ({ cls := "java/lang/String", name := "charAt", desc := "(I)C" } : Jvm.MethodName) jdk_42_method_56_code (2 : Nat) (Option.some Jvm.ClassFile.FieldType.char)).before args0 about1 = true := code_word (m := ⟨7, 3⟩) (meth := k7m3) (c := k7c3) (by decide +kernel) rfl rfl rfl (by decide +kernel)
set_option maxRecDepth 65536 in
theorem w_c5 : (Jvm.Cond.code ({ cls := "java/lang/String", name := "isLatin1", desc := "()Z" } : Jvm.MethodName) jdk_42_method_154_code (1 : Nat) (Option.some Jvm.ClassFile.FieldType.boolean)).before args0 about1 = true := code_word (m := ⟨7, 7⟩) (meth := k7m7) (c := k7c7) (by decide +kernel) rfl rfl rfl (by decide +kernel)
set_option maxRecDepth 65536 in
theorem w_c6 : (Jvm.Cond.code ({ cls := "java/lang/StringLatin1", name := "charAt", desc := "([BI)C" } : Jvm.MethodName) jdk_43_method_2_code (2 : Nat) (Option.some Jvm.ClassFile.FieldType.char)).before args0 about1 = true := code_word (m := ⟨8, 1⟩) (meth := k8m1) (c := k8c1) (by decide +kernel) rfl rfl rfl (by decide +kernel)
set_option maxRecDepth 65536 in
theorem w_c7 : (Jvm.Cond.code ({ cls := "java/lang/String", name := "checkIndex", desc := "(II)V" } : Jvm.MethodName) jdk_42_method_155_code (2 : Nat) (Option.none : Option Jvm.ClassFile.FieldType)).before args0 about1 = true := code_word (m := ⟨7, 8⟩) (meth := k7m8) (c := k7c8) (by decide +kernel) rfl rfl rfl (by decide +kernel)
set_option maxRecDepth 65536 in
theorem w_c8 : (Jvm.Cond.code ({ cls := "jdk/internal/util/Preconditions", name := "checkIndex", desc := "(IILjava/util/function/BiFunction;)I" } : Jvm.MethodName) jdk_41_method_11_code (3 : Nat) (Option.some Jvm.ClassFile.FieldType.int)).before args0 about1 = true := code_word (m := ⟨9, 1⟩) (meth := k9m1) (c := k9c1) (by decide +kernel) rfl rfl rfl (by decide +kernel)
set_option maxRecDepth 65536 in
theorem w_c9 : (Jvm.Cond.code ({ cls := "com/example/serialis/serialis/marc/MarcFormatByLabelPinLaw", name := "make", desc := "([CI)Ljava/lang/String;" } : Jvm.MethodName) method_3_code (2 : Nat) (Option.some (Jvm.ClassFile.FieldType.object "java/lang/String"))).before args0 about1 = true := code_word (m := ⟨1, 2⟩) (meth := k1m2) (c := k1c2) (by decide +kernel) rfl rfl rfl (by decide +kernel)
set_option maxRecDepth 65536 in
theorem w_c10 : (Jvm.Cond.code ({ cls := "java/lang/String", name := "<init>", desc := "([C)V" } : Jvm.MethodName) jdk_42_method_3_code (2 : Nat) (Option.none : Option Jvm.ClassFile.FieldType)).before args0 about1 = true := code_word (m := ⟨7, 1⟩) (meth := k7m1) (c := k7c1) (by decide +kernel) rfl rfl rfl (by decide +kernel)
set_option maxRecDepth 65536 in
theorem w_c11 : (Jvm.Cond.code ({ cls := "java/lang/String", name := "<init>", desc := "([CIILjava/lang/Void;)V" } : Jvm.MethodName) jdk_42_method_149_code (6 : Nat) (Option.none : Option Jvm.ClassFile.FieldType)).before args0 about1 = true := code_word (m := ⟨7, 5⟩) (meth := k7m5) (c := k7c5) (by decide +kernel) rfl rfl rfl (by decide +kernel)
set_option maxRecDepth 65536 in
theorem w_c12 : (Jvm.Cond.code ({ cls := "java/lang/Object", name := "<init>", desc := "()V" } : Jvm.MethodName) object_method_1_code (1 : Nat) (Option.none : Option Jvm.ClassFile.FieldType)).before args0 about1 = true := code_word (m := ⟨0, 0⟩) (meth := k0m0) (c := k0c0) (by decide +kernel) rfl rfl rfl (by decide +kernel)
set_option maxRecDepth 65536 in
theorem w_c13 : (Jvm.Cond.code ({ cls := "com/example/serialis/serialis/marc/MarcFormat", name := "byLabel", desc := "(Ljava/lang/String;)Ljava/util/Optional;" } : Jvm.MethodName) prog_43_method_7_code (5 : Nat) (Option.some (Jvm.ClassFile.FieldType.object "java/util/Optional"))).before args0 about1 = true := code_word (m := ⟨11, 1⟩) (meth := k11m1) (c := k11c1) (by decide +kernel) rfl rfl rfl (by decide +kernel)
set_option maxRecDepth 65536 in
theorem w_c14 : (Jvm.Cond.code ({ cls := "com/example/serialis/serialis/marc/MarcFormat", name := "values", desc := "()[Lcom/example/serialis/serialis/marc/MarcFormat;" } : Jvm.MethodName) prog_43_method_1_code (0 : Nat) (Option.some (Jvm.ClassFile.FieldType.array (Jvm.ClassFile.FieldType.object "com/example/serialis/serialis/marc/MarcFormat")))).before args0 about1 = true := code_word (m := ⟨11, 0⟩) (meth := k11m0) (c := k11c0) (by decide +kernel) rfl rfl rfl (by decide +kernel)
set_option maxRecDepth 65536 in
theorem w_c15 : (Jvm.Cond.code ({ cls := "java/lang/String", name := "equals", desc := "(Ljava/lang/Object;)Z" } : Jvm.MethodName) jdk_42_method_66_code (3 : Nat) (Option.some Jvm.ClassFile.FieldType.boolean)).before args0 about1 = true := code_word (m := ⟨7, 4⟩) (meth := k7m4) (c := k7c4) (by decide +kernel) rfl rfl rfl (by decide +kernel)
set_option maxRecDepth 65536 in
theorem w_c16 : (Jvm.Cond.code ({ cls := "java/lang/StringLatin1", name := "equals", desc := "([B[B)Z" } : Jvm.MethodName) jdk_43_method_13_code (3 : Nat) (Option.some Jvm.ClassFile.FieldType.boolean)).before args0 about1 = true := code_word (m := ⟨8, 2⟩) (meth := k8m2) (c := k8c2) (by decide +kernel) rfl rfl rfl (by decide +kernel)
set_option maxRecDepth 65536 in
theorem w_c17 : (Jvm.Cond.code ({ cls := "java/util/Optional", name := "empty", desc := "()Ljava/util/Optional;" } : Jvm.MethodName) jdk_32_method_1_code (1 : Nat) (Option.some (Jvm.ClassFile.FieldType.object "java/util/Optional"))).before args0 about1 = true := code_word (m := ⟨13, 0⟩) (meth := k13m0) (c := k13c0) (by decide +kernel) rfl rfl rfl (by decide +kernel)
set_option maxRecDepth 65536 in
theorem w_c18 : (Jvm.Cond.code ({ cls := "java/util/Optional", name := "isPresent", desc := "()Z" } : Jvm.MethodName) jdk_32_method_6_code (1 : Nat) (Option.some Jvm.ClassFile.FieldType.boolean)).before args0 about1 = true := code_word (m := ⟨13, 4⟩) (meth := k13m4) (c := k13c4) (by decide +kernel) rfl rfl rfl (by decide +kernel)
set_option maxRecDepth 65536 in
theorem w_c19 : (Jvm.Cond.code ({ cls := "java/lang/StringUTF16", name := "compress", desc := "([CII)[B" } : Jvm.MethodName) jdk_52_method_16_code (6 : Nat) (Option.some (Jvm.ClassFile.FieldType.array Jvm.ClassFile.FieldType.byte))).before args0 about1 = true := code_word (m := ⟨14, 2⟩) (meth := k14m2) (c := k14c2) (by decide +kernel) rfl rfl rfl (by decide +kernel)
set_option maxRecDepth 65536 in
theorem w_c20 : (Jvm.Cond.code ({ cls := "java/lang/StringUTF16", name := "compress", desc := "([CI[BII)I" } : Jvm.MethodName) jdk_52_method_21_code (7 : Nat) (Option.some Jvm.ClassFile.FieldType.int)).before args0 about1 = true := code_word (m := ⟨14, 3⟩) (meth := k14m3) (c := k14c3) (by decide +kernel) rfl rfl rfl (by decide +kernel)
set_option maxRecDepth 65536 in
theorem w_c21 : (Jvm.Cond.code ({ cls := "java/lang/StringUTF16", name := "coderFromArrayLen", desc := "([BI)B" } : Jvm.MethodName) jdk_52_method_15_code (2 : Nat) (Option.some Jvm.ClassFile.FieldType.byte)).before args0 about1 = true := code_word (m := ⟨14, 1⟩) (meth := k14m1) (c := k14c1) (by decide +kernel) rfl rfl rfl (by decide +kernel)
set_option maxRecDepth 65536 in
theorem w_c22 : (Jvm.Cond.code ({ cls := "java/util/Optional", name := "of", desc := "(Ljava/lang/Object;)Ljava/util/Optional;" } : Jvm.MethodName) jdk_32_method_3_code (1 : Nat) (Option.some (Jvm.ClassFile.FieldType.object "java/util/Optional"))).before args0 about1 = true := code_word (m := ⟨13, 2⟩) (meth := k13m2) (c := k13c2) (by decide +kernel) rfl rfl rfl (by decide +kernel)
set_option maxRecDepth 65536 in
theorem w_c23 : (Jvm.Cond.code ({ cls := "java/util/Objects", name := "requireNonNull", desc := "(Ljava/lang/Object;)Ljava/lang/Object;" } : Jvm.MethodName) jdk_31_method_10_code (1 : Nat) (Option.some (Jvm.ClassFile.FieldType.object "java/lang/Object"))).before args0 about1 = true := code_word (m := ⟨15, 1⟩) (meth := k15m1) (c := k15c1) (by decide +kernel) rfl rfl rfl (by decide +kernel)
set_option maxRecDepth 65536 in
theorem w_c24 : (Jvm.Cond.code ({ cls := "java/util/Optional", name := "<init>", desc := "(Ljava/lang/Object;)V" } : Jvm.MethodName) jdk_32_method_2_code (2 : Nat) (Option.none : Option Jvm.ClassFile.FieldType)).before args0 about1 = true := code_word (m := ⟨13, 1⟩) (meth := k13m1) (c := k13c1) (by decide +kernel) rfl rfl rfl (by decide +kernel)
set_option maxRecDepth 65536 in
theorem w_c25 : (Jvm.Cond.code ({ cls := "java/util/Optional", name := "get", desc := "()Ljava/lang/Object;" } : Jvm.MethodName) jdk_32_method_5_code (1 : Nat) (Option.some (Jvm.ClassFile.FieldType.object "java/lang/Object"))).before args0 about1 = true := code_word (m := ⟨13, 3⟩) (meth := k13m3) (c := k13c3) (by decide +kernel) rfl rfl rfl (by decide +kernel)
def codes1 : List Jvm.Cond := [Jvm.Cond.code x code maxLocals ret, Jvm.Cond.code ({ cls := "java/lang/String", name := "length", desc := "()I" } : Jvm.MethodName) jdk_42_method_54_code (1 : Nat) (Option.some Jvm.ClassFile.FieldType.int), Jvm.Cond.code ({ cls := "java/lang/String", name := "coder", desc := "()B" } : Jvm.MethodName) jdk_42_method_152_code (1 : Nat) (Option.some Jvm.ClassFile.FieldType.byte), Jvm.Cond.code ({ cls := "com/example/serialis/serialis/marc/MarcFormatByLabelPinLaw", name := "at", desc := "(Ljava/lang/String;IC)C" } : Jvm.MethodName) method_2_code (3 : Nat) (Option.some Jvm.ClassFile.FieldType.char), Jvm.Cond.code ({ cls := "java/lang/String", name := "charAt", desc := "(I)C" } : Jvm.MethodName) jdk_42_method_56_code (2 : Nat) (Option.some Jvm.ClassFile.FieldType.char), Jvm.Cond.code ({ cls := "java/lang/String", name := "isLatin1", desc := "()Z" } : Jvm.MethodName) jdk_42_method_154_code (1 : Nat) (Option.some Jvm.ClassFile.FieldType.boolean), Jvm.Cond.code ({ cls := "java/lang/StringLatin1", name := "charAt", desc := "([BI)C" } : Jvm.MethodName) jdk_43_method_2_code (2 : Nat) (Option.some Jvm.ClassFile.FieldType.char), Jvm.Cond.code ({ cls := "java/lang/String", name := "checkIndex", desc := "(II)V" } : Jvm.MethodName) jdk_42_method_155_code (2 : Nat) (Option.none : Option Jvm.ClassFile.FieldType), Jvm.Cond.code ({ cls := "jdk/internal/util/Preconditions", name := "checkIndex", desc := "(IILjava/util/function/BiFunction;)I" } : Jvm.MethodName) jdk_41_method_11_code (3 : Nat) (Option.some Jvm.ClassFile.FieldType.int), Jvm.Cond.code ({ cls := "com/example/serialis/serialis/marc/MarcFormatByLabelPinLaw", name := "make", desc := "([CI)Ljava/lang/String;" } : Jvm.MethodName) method_3_code (2 : Nat) (Option.some (Jvm.ClassFile.FieldType.object "java/lang/String")), Jvm.Cond.code ({ cls := "java/lang/String", name := "<init>", desc := "([C)V" } : Jvm.MethodName) jdk_42_method_3_code (2 : Nat) (Option.none : Option Jvm.ClassFile.FieldType), Jvm.Cond.code ({ cls := "java/lang/String", name := "<init>", desc := "([CIILjava/lang/Void;)V" } : Jvm.MethodName) jdk_42_method_149_code (6 : Nat) (Option.none : Option Jvm.ClassFile.FieldType), Jvm.Cond.code ({ cls := "java/lang/Object", name := "<init>", desc := "()V" } : Jvm.MethodName) object_method_1_code (1 : Nat) (Option.none : Option Jvm.ClassFile.FieldType), Jvm.Cond.code ({ cls := "com/example/serialis/serialis/marc/MarcFormat", name := "byLabel", desc := "(Ljava/lang/String;)Ljava/util/Optional;" } : Jvm.MethodName) prog_43_method_7_code (5 : Nat) (Option.some (Jvm.ClassFile.FieldType.object "java/util/Optional")), Jvm.Cond.code ({ cls := "com/example/serialis/serialis/marc/MarcFormat", name := "values", desc := "()[Lcom/example/serialis/serialis/marc/MarcFormat;" } : Jvm.MethodName) prog_43_method_1_code (0 : Nat) (Option.some (Jvm.ClassFile.FieldType.array (Jvm.ClassFile.FieldType.object "com/example/serialis/serialis/marc/MarcFormat"))), Jvm.Cond.code ({ cls := "java/lang/String", name := "equals", desc := "(Ljava/lang/Object;)Z" } : Jvm.MethodName) jdk_42_method_66_code (3 : Nat) (Option.some Jvm.ClassFile.FieldType.boolean), Jvm.Cond.code ({ cls := "java/lang/StringLatin1", name := "equals", desc := "([B[B)Z" } : Jvm.MethodName) jdk_43_method_13_code (3 : Nat) (Option.some Jvm.ClassFile.FieldType.boolean), Jvm.Cond.code ({ cls := "java/util/Optional", name := "empty", desc := "()Ljava/util/Optional;" } : Jvm.MethodName) jdk_32_method_1_code (1 : Nat) (Option.some (Jvm.ClassFile.FieldType.object "java/util/Optional")), Jvm.Cond.code ({ cls := "java/util/Optional", name := "isPresent", desc := "()Z" } : Jvm.MethodName) jdk_32_method_6_code (1 : Nat) (Option.some Jvm.ClassFile.FieldType.boolean), Jvm.Cond.code ({ cls := "java/lang/StringUTF16", name := "compress", desc := "([CII)[B" } : Jvm.MethodName) jdk_52_method_16_code (6 : Nat) (Option.some (Jvm.ClassFile.FieldType.array Jvm.ClassFile.FieldType.byte)), Jvm.Cond.code ({ cls := "java/lang/StringUTF16", name := "compress", desc := "([CI[BII)I" } : Jvm.MethodName) jdk_52_method_21_code (7 : Nat) (Option.some Jvm.ClassFile.FieldType.int), Jvm.Cond.code ({ cls := "java/lang/StringUTF16", name := "coderFromArrayLen", desc := "([BI)B" } : Jvm.MethodName) jdk_52_method_15_code (2 : Nat) (Option.some Jvm.ClassFile.FieldType.byte), Jvm.Cond.code ({ cls := "java/util/Optional", name := "of", desc := "(Ljava/lang/Object;)Ljava/util/Optional;" } : Jvm.MethodName) jdk_32_method_3_code (1 : Nat) (Option.some (Jvm.ClassFile.FieldType.object "java/util/Optional")), Jvm.Cond.code ({ cls := "java/util/Objects", name := "requireNonNull", desc := "(Ljava/lang/Object;)Ljava/lang/Object;" } : Jvm.MethodName) jdk_31_method_10_code (1 : Nat) (Option.some (Jvm.ClassFile.FieldType.object "java/lang/Object")), Jvm.Cond.code ({ cls := "java/util/Optional", name := "<init>", desc := "(Ljava/lang/Object;)V" } : Jvm.MethodName) jdk_32_method_2_code (2 : Nat) (Option.none : Option Jvm.ClassFile.FieldType), Jvm.Cond.code ({ cls := "java/util/Optional", name := "get", desc := "()Ljava/lang/Object;" } : Jvm.MethodName) jdk_32_method_5_code (1 : Nat) (Option.some (Jvm.ClassFile.FieldType.object "java/lang/Object"))]
set_option maxRecDepth 65536 in
theorem codes_eq : words1.filter isCode = codes1 := rfl
theorem w_codes : ∀ c ∈ words1.filter isCode, c.before args0 about1 = true := by
  rw [codes_eq]
  intro c hc
  simp only [codes1, List.mem_cons, List.not_mem_nil, or_false] at hc
  rcases hc with rfl | rfl | rfl | rfl | rfl | rfl | rfl | rfl | rfl | rfl | rfl | rfl | rfl | rfl | rfl | rfl | rfl | rfl | rfl | rfl | rfl | rfl | rfl | rfl | rfl | rfl
  · exact w_c0
  · exact w_c1
  · exact w_c2
  · exact w_c3
  · exact w_c4
  · exact w_c5
  · exact w_c6
  · exact w_c7
  · exact w_c8
  · exact w_c9
  · exact w_c10
  · exact w_c11
  · exact w_c12
  · exact w_c13
  · exact w_c14
  · exact w_c15
  · exact w_c16
  · exact w_c17
  · exact w_c18
  · exact w_c19
  · exact w_c20
  · exact w_c21
  · exact w_c22
  · exact w_c23
  · exact w_c24
  · exact w_c25
set_option maxRecDepth 65536 in
theorem w_t1 : (words1.take 24).all (fun c => isCode c || c.before args0 about1) = true := by decide +kernel
set_option maxRecDepth 65536 in
theorem w_t2 : ((words1.drop 24).take 24).all (fun c => isCode c || c.before args0 about1) = true := by decide +kernel
set_option maxRecDepth 65536 in
theorem w_t3 : (((words1.drop 24).drop 24).take 24).all (fun c => isCode c || c.before args0 about1) = true := by decide +kernel
set_option maxRecDepth 65536 in
theorem w_t4 : ((((words1.drop 24).drop 24).drop 24).take 24).all (fun c => isCode c || c.before args0 about1) = true := by decide +kernel
set_option maxRecDepth 65536 in
theorem w_t5 : (((((words1.drop 24).drop 24).drop 24).drop 24).take 24).all (fun c => isCode c || c.before args0 about1) = true := by decide +kernel
set_option maxRecDepth 65536 in
theorem w_t6 : (((((words1.drop 24).drop 24).drop 24).drop 24).drop 24).all (fun c => isCode c || c.before args0 about1) = true := by decide +kernel
theorem w_tables : (allAtoms (Jvm.Cond.code x code maxLocals ret :: tables_1)).before args0 about1 = true := by
  rw [allAtoms_all]
  show words1.all (fun c => c.before args0 about1) = true
  refine all_split ?_ w_codes
  rw [← List.take_append_drop 24 words1, List.all_append, w_t1, ← List.take_append_drop 24 (words1.drop 24), List.all_append, w_t2, ← List.take_append_drop 24 ((words1.drop 24).drop 24), List.all_append, w_t3, ← List.take_append_drop 24 (((words1.drop 24).drop 24).drop 24), List.all_append, w_t4, ← List.take_append_drop 24 ((((words1.drop 24).drop 24).drop 24).drop 24), List.all_append, w_t5, w_t6]
  rfl
set_option maxRecDepth 65536 in
theorem w_rest : rest_1_c.before args0 about1 = true := by decide +kernel
set_option maxRecDepth 65536 in
theorem w_case : (Jvm.Cond.and given_1 narrow_1).before args0 about1 = true := by decide +kernel
set_option maxRecDepth 65536 in
theorem w_consts : constsHeld consts_1 about1 := Jvm.Lit.constsHeldB_iff.mp (by decide +kernel)
theorem w_applies : (headSpec (Jvm.Cond.code x code maxLocals ret :: tables_1) room_1).applies x e0.platform about1 = true :=
  (Spec.applies_iff w_frames).mpr ⟨w_running, w_runnable, w_alone, w_named, w_hears, w_ripe, w_room, w_tables⟩
theorem atStart : AtStart classFile x code maxLocals ret World_1 tables_1 room_1 Calls_1 rest_1 Pre_1 launch0 p0 e0 about1 theMethod args0 below0 :=
  ⟨lists_1, trivial, launch0.admits_env _ _ _, launch0.least_env, fairChoices_fair.cas, fairChoices_fair.clock, w_frames, w_args, w_heap, w_applies, ⟨w_consts, trivial⟩, w_rest, w_case⟩
end start1
theorem witness_1 : WitnessClaimed_1 := ⟨start1.p0, start1.e0, start1.about1, start1.theMethod, start1.args0, start1.below0, start1.atStart⟩
end Jvm.Pilot.@@N@@
