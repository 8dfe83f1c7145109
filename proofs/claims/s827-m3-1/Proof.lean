import JvmDerived
import JvmDerived.Pilot.@@N@@Statement
import JvmDerived.Pilot.@@N@@Code
set_option linter.unusedVariables false
set_option linter.unusedSimpArgs false
namespace Jvm.OwK
open Jvm Sem ClassFile Op Lib Jvm.Free Jvm.Stand Jvm.LawKit Jvm.RoadKit Bundle
/-- one decoded row of a body, with the place of the next one -/
def Dec (c : ByteArray) (pc : Nat) (i : Instr) (len n : Nat) : Prop := decode c pc = .ok (i, len) ∧ pc + len = n
/-- the run from here ends as F says -/
def Go (p : Program) (e : Env) (below : List Frame) (F : State → Prop) (T : State) (g : JFrame) : Prop := ∃ t, Steps p.tables e below (T.setTop g) t ∧ F t
/-- where a plain step can be taken -/
def Cx (p : Program) (below : List Frame) (m : MethodId) (c : Code) (cd : ByteArray) (T : State) : Prop := At T m c below ∧ p.tables.exec = Jvm.exec ∧ c.code = cd
def ush (x y : Int32) : Int32 := (x.toUInt32 >>> (y &&& 31).toUInt32).toInt32
def ushL (x : Int64) (y : Int32) : Int64 := (x.toUInt64 >>> (y &&& 0x3f).toInt64.toUInt64).toInt64
def lcm (x y : Int64) : Int32 := if x > y then 1 else if x = y then 0 else -1
section Plain
variable {p : Program} {e : Env} {below : List Frame} {F : State → Prop} {T : State} {m : MethodId} {c : Code} {cd : ByteArray} {pc n : Nat} {L : Array Slot} {r : List Value}
theorem Go.st {T' : State} {g g' : JFrame} (h : ∀ t, Steps p.tables e below (T'.setTop g') t → Steps p.tables e below (T.setTop g) t) (k : Go p e below F T' g') : Go p e below F T g := by
  obtain ⟨t, st, f⟩ := k; exact ⟨t, h t st, f⟩
theorem Go.run {T' : State} {g g' : JFrame} (h : Steps p.tables e below (T.setTop g) (T'.setTop g')) (k : Go p e below F T' g') : Go p e below F T g := by
  obtain ⟨t, st, f⟩ := k; exact ⟨t, h.trans st, f⟩
theorem Go.top {x y : Int32} (h : x = y) (k : Go p e below F T (mkF m pc L (.int y :: r))) : Go p e below F T (mkF m pc L (.int x :: r)) := h ▸ k
theorem Go.topL {x y : Int64} (h : x = y) (k : Go p e below F T (mkF m pc L (.long y :: r))) : Go p e below F T (mkF m pc L (.long x :: r)) := h ▸ k
theorem Go.aload_n (C : Cx p below m c cd T) {k : Fin 4} {v : Value} (d : Dec cd pc (.aload_n k) 1 n) (hl : L[k.val]? = some (.val v)) (hv : v.isRef = true)
    (k : Go p e below F T (mkF m n L (v :: r))) : Go p e below F T (mkF m pc L r) := by
  obtain ⟨t, st, f⟩ := k; obtain ⟨d, rfl⟩ := d
  exact ⟨t, XS.aloadN C.1 C.2.1 rfl (hb C.2.2 d) hl hv st, f⟩
theorem Go.aload (C : Cx p below m c cd T) {k : Nat} {v : Value} (d : Dec cd pc (.aload k) 2 n) (hl : L[k]? = some (.val v)) (hv : v.isRef = true)
    (k : Go p e below F T (mkF m n L (v :: r))) : Go p e below F T (mkF m pc L r) := by
  obtain ⟨t, st, f⟩ := k; obtain ⟨d, rfl⟩ := d
  exact ⟨t, XS.aload C.1 C.2.1 rfl (hb C.2.2 d) hl hv st, f⟩
theorem Go.iload_n (C : Cx p below m c cd T) {k : Fin 4} {v : Int32} (d : Dec cd pc (.iload_n k) 1 n) (hl : L[k.val]? = some (.val (.int v)))
    (k : Go p e below F T (mkF m n L (.int v :: r))) : Go p e below F T (mkF m pc L r) := by
  obtain ⟨t, st, f⟩ := k; obtain ⟨d, rfl⟩ := d
  exact ⟨t, XS.iloadN C.1 C.2.1 rfl (hb C.2.2 d) hl st, f⟩
theorem Go.iload (C : Cx p below m c cd T) {k : Nat} {v : Int32} (d : Dec cd pc (.iload k) 2 n) (hl : L[k]? = some (.val (.int v)))
    (k : Go p e below F T (mkF m n L (.int v :: r))) : Go p e below F T (mkF m pc L r) := by
  obtain ⟨t, st, f⟩ := k; obtain ⟨d, rfl⟩ := d
  exact ⟨t, XS.iload C.1 C.2.1 rfl (hb C.2.2 d) hl st, f⟩
theorem Go.lload_n (C : Cx p below m c cd T) {k : Fin 4} {v : Int64} (d : Dec cd pc (.lload_n k) 1 n) (hl : L[k.val]? = some (.val (.long v)))
    (k : Go p e below F T (mkF m n L (.long v :: r))) : Go p e below F T (mkF m pc L r) := by
  obtain ⟨t, st, f⟩ := k; obtain ⟨d, rfl⟩ := d
  exact ⟨t, XS.lloadN C.1 C.2.1 rfl (hb C.2.2 d) hl st, f⟩
theorem Go.lload (C : Cx p below m c cd T) {k : Nat} {v : Int64} (d : Dec cd pc (.lload k) 2 n) (hl : L[k]? = some (.val (.long v)))
    (k : Go p e below F T (mkF m n L (.long v :: r))) : Go p e below F T (mkF m pc L r) := by
  obtain ⟨t, st, f⟩ := k; obtain ⟨d, rfl⟩ := d
  exact ⟨t, XS.lload C.1 C.2.1 rfl (hb C.2.2 d) hl st, f⟩
theorem Go.iconst (C : Cx p below m c cd T) {i : Int} {z : Int32} (d : Dec cd pc (.iconst i) 1 n) (hz : Int32.ofInt i = z)
    (k : Go p e below F T (mkF m n L (.int z :: r))) : Go p e below F T (mkF m pc L r) := by
  obtain ⟨t, st, f⟩ := k; obtain ⟨d, rfl⟩ := d
  subst hz; exact ⟨t, XS.iconst C.1 C.2.1 rfl (hb C.2.2 d)  st, f⟩
theorem Go.bipush (C : Cx p below m c cd T) {i : Int} {z : Int32} (d : Dec cd pc (.bipush i) 2 n) (hz : (Int8.ofInt i).toInt32 = z)
    (k : Go p e below F T (mkF m n L (.int z :: r))) : Go p e below F T (mkF m pc L r) := by
  obtain ⟨t, st, f⟩ := k; obtain ⟨d, rfl⟩ := d
  subst hz; exact ⟨t, XS.bipush C.1 C.2.1 rfl (hb C.2.2 d)  st, f⟩
theorem Go.sipush (C : Cx p below m c cd T) {i : Int} {z : Int32} (d : Dec cd pc (.sipush i) 3 n) (hz : (Int16.ofInt i).toInt32 = z)
    (k : Go p e below F T (mkF m n L (.int z :: r))) : Go p e below F T (mkF m pc L r) := by
  obtain ⟨t, st, f⟩ := k; obtain ⟨d, rfl⟩ := d
  subst hz; exact ⟨t, XS.sipush C.1 C.2.1 rfl (hb C.2.2 d)  st, f⟩
theorem Go.aconst_null (C : Cx p below m c cd T)  (d : Dec cd pc (.aconst_null) 1 n)
    (k : Go p e below F T (mkF m n L (.null :: r))) : Go p e below F T (mkF m pc L r) := by
  obtain ⟨t, st, f⟩ := k; obtain ⟨d, rfl⟩ := d
  exact ⟨t, XS.aconstNull C.1 C.2.1 rfl (hb C.2.2 d)  st, f⟩
theorem Go.iadd (C : Cx p below m c cd T) {x y : Int32} (d : Dec cd pc (.iadd) 1 n)
    (k : Go p e below F T (mkF m n L (.int (x + y) :: r))) : Go p e below F T (mkF m pc L (.int y :: .int x :: r)) := by
  obtain ⟨t, st, f⟩ := k; obtain ⟨d, rfl⟩ := d
  exact ⟨t, XS.iadd C.1 C.2.1 rfl (hb C.2.2 d) rfl st, f⟩
theorem Go.isub (C : Cx p below m c cd T) {x y : Int32} (d : Dec cd pc (.isub) 1 n)
    (k : Go p e below F T (mkF m n L (.int (x - y) :: r))) : Go p e below F T (mkF m pc L (.int y :: .int x :: r)) := by
  obtain ⟨t, st, f⟩ := k; obtain ⟨d, rfl⟩ := d
  exact ⟨t, XS.isub C.1 C.2.1 rfl (hb C.2.2 d) rfl st, f⟩
theorem Go.iand (C : Cx p below m c cd T) {x y : Int32} (d : Dec cd pc (.iand) 1 n)
    (k : Go p e below F T (mkF m n L (.int (x &&& y) :: r))) : Go p e below F T (mkF m pc L (.int y :: .int x :: r)) := by
  obtain ⟨t, st, f⟩ := k; obtain ⟨d, rfl⟩ := d
  exact ⟨t, XS.iand C.1 C.2.1 rfl (hb C.2.2 d) rfl st, f⟩
theorem Go.imul (C : Cx p below m c cd T) {x y : Int32} (d : Dec cd pc (.imul) 1 n)
    (k : Go p e below F T (mkF m n L (.int (x * y) :: r))) : Go p e below F T (mkF m pc L (.int y :: .int x :: r)) := by
  obtain ⟨t, st, f⟩ := k; obtain ⟨d, rfl⟩ := d
  exact ⟨t, XS.imul C.1 C.2.1 rfl (hb C.2.2 d) rfl st, f⟩
theorem Go.ior (C : Cx p below m c cd T) {x y : Int32} (d : Dec cd pc (.ior) 1 n)
    (k : Go p e below F T (mkF m n L (.int (x ||| y) :: r))) : Go p e below F T (mkF m pc L (.int y :: .int x :: r)) := by
  obtain ⟨t, st, f⟩ := k; obtain ⟨d, rfl⟩ := d
  exact ⟨t, XS.ior C.1 C.2.1 rfl (hb C.2.2 d) rfl st, f⟩
theorem Go.ixor (C : Cx p below m c cd T) {x y : Int32} (d : Dec cd pc (.ixor) 1 n)
    (k : Go p e below F T (mkF m n L (.int (x ^^^ y) :: r))) : Go p e below F T (mkF m pc L (.int y :: .int x :: r)) := by
  obtain ⟨t, st, f⟩ := k; obtain ⟨d, rfl⟩ := d
  exact ⟨t, XS.ixor C.1 C.2.1 rfl (hb C.2.2 d) rfl st, f⟩
theorem Go.iushr (C : Cx p below m c cd T) {x y : Int32} (d : Dec cd pc (.iushr) 1 n)
    (k : Go p e below F T (mkF m n L (.int (ush x y) :: r))) : Go p e below F T (mkF m pc L (.int y :: .int x :: r)) := by
  obtain ⟨t, st, f⟩ := k; obtain ⟨d, rfl⟩ := d
  exact ⟨t, XS.iushr C.1 C.2.1 rfl (hb C.2.2 d) rfl st, f⟩
theorem Go.idiv (C : Cx p below m c cd T) {x y : Int32} (d : Dec cd pc (.idiv) 1 n) (hy : y ≠ 0)
    (k : Go p e below F T (mkF m n L (.int (x / y) :: r))) : Go p e below F T (mkF m pc L (.int y :: .int x :: r)) := by
  obtain ⟨t, st, f⟩ := k; obtain ⟨d, rfl⟩ := d
  exact ⟨t, XS.idiv C.1 C.2.1 rfl (hb C.2.2 d) rfl hy st, f⟩
theorem Go.ineg (C : Cx p below m c cd T) {x : Int32} (d : Dec cd pc (.ineg) 1 n)
    (k : Go p e below F T (mkF m n L (.int (-x) :: r))) : Go p e below F T (mkF m pc L (.int x :: r)) := by
  obtain ⟨t, st, f⟩ := k; obtain ⟨d, rfl⟩ := d
  exact ⟨t, XS.ineg C.1 C.2.1 rfl (hb C.2.2 d) rfl st, f⟩
theorem Go.ladd (C : Cx p below m c cd T) {x y : Int64} (d : Dec cd pc (.ladd) 1 n)
    (k : Go p e below F T (mkF m n L (.long (x + y) :: r))) : Go p e below F T (mkF m pc L (.long y :: .long x :: r)) := by
  obtain ⟨t, st, f⟩ := k; obtain ⟨d, rfl⟩ := d
  exact ⟨t, XS.ladd C.1 C.2.1 rfl (hb C.2.2 d) rfl st, f⟩
theorem Go.lsub (C : Cx p below m c cd T) {x y : Int64} (d : Dec cd pc (.lsub) 1 n)
    (k : Go p e below F T (mkF m n L (.long (x - y) :: r))) : Go p e below F T (mkF m pc L (.long y :: .long x :: r)) := by
  obtain ⟨t, st, f⟩ := k; obtain ⟨d, rfl⟩ := d
  exact ⟨t, XS.lsub C.1 C.2.1 rfl (hb C.2.2 d) rfl st, f⟩
theorem Go.lmul (C : Cx p below m c cd T) {x y : Int64} (d : Dec cd pc (.lmul) 1 n)
    (k : Go p e below F T (mkF m n L (.long (x * y) :: r))) : Go p e below F T (mkF m pc L (.long y :: .long x :: r)) := by
  obtain ⟨t, st, f⟩ := k; obtain ⟨d, rfl⟩ := d
  exact ⟨t, XS.lmul C.1 C.2.1 rfl (hb C.2.2 d) rfl st, f⟩
theorem Go.land (C : Cx p below m c cd T) {x y : Int64} (d : Dec cd pc (.land) 1 n)
    (k : Go p e below F T (mkF m n L (.long (x &&& y) :: r))) : Go p e below F T (mkF m pc L (.long y :: .long x :: r)) := by
  obtain ⟨t, st, f⟩ := k; obtain ⟨d, rfl⟩ := d
  exact ⟨t, XS.land C.1 C.2.1 rfl (hb C.2.2 d) rfl st, f⟩
theorem Go.lor (C : Cx p below m c cd T) {x y : Int64} (d : Dec cd pc (.lor) 1 n)
    (k : Go p e below F T (mkF m n L (.long (x ||| y) :: r))) : Go p e below F T (mkF m pc L (.long y :: .long x :: r)) := by
  obtain ⟨t, st, f⟩ := k; obtain ⟨d, rfl⟩ := d
  exact ⟨t, XS.lor C.1 C.2.1 rfl (hb C.2.2 d) rfl st, f⟩
theorem Go.lushr (C : Cx p below m c cd T) {x : Int64} {y : Int32} (d : Dec cd pc (.lushr) 1 n)
    (k : Go p e below F T (mkF m n L (.long (ushL x y) :: r))) : Go p e below F T (mkF m pc L (.int y :: .long x :: r)) := by
  obtain ⟨t, st, f⟩ := k; obtain ⟨d, rfl⟩ := d
  exact ⟨t, XS.lushr C.1 C.2.1 rfl (hb C.2.2 d) rfl st, f⟩
theorem Go.i2l (C : Cx p below m c cd T) {x : Int32} (d : Dec cd pc (.i2l) 1 n)
    (k : Go p e below F T (mkF m n L (.long x.toInt64 :: r))) : Go p e below F T (mkF m pc L (.int x :: r)) := by
  obtain ⟨t, st, f⟩ := k; obtain ⟨d, rfl⟩ := d
  exact ⟨t, XS.i2l C.1 C.2.1 rfl (hb C.2.2 d) rfl st, f⟩
theorem Go.l2i (C : Cx p below m c cd T) {x : Int64} (d : Dec cd pc (.l2i) 1 n)
    (k : Go p e below F T (mkF m n L (.int x.toInt32 :: r))) : Go p e below F T (mkF m pc L (.long x :: r)) := by
  obtain ⟨t, st, f⟩ := k; obtain ⟨d, rfl⟩ := d
  exact ⟨t, XS.l2i C.1 C.2.1 rfl (hb C.2.2 d) rfl st, f⟩
theorem Go.i2b (C : Cx p below m c cd T) {x : Int32} (d : Dec cd pc (.i2b) 1 n)
    (k : Go p e below F T (mkF m n L (.int x.toInt8.toInt32 :: r))) : Go p e below F T (mkF m pc L (.int x :: r)) := by
  obtain ⟨t, st, f⟩ := k; obtain ⟨d, rfl⟩ := d
  exact ⟨t, XS.i2b C.1 C.2.1 rfl (hb C.2.2 d) rfl st, f⟩
theorem Go.i2c (C : Cx p below m c cd T) {x : Int32} (d : Dec cd pc (.i2c) 1 n)
    (k : Go p e below F T (mkF m n L (.int x.toUInt32.toUInt16.toUInt32.toInt32 :: r))) : Go p e below F T (mkF m pc L (.int x :: r)) := by
  obtain ⟨t, st, f⟩ := k; obtain ⟨d, rfl⟩ := d
  exact ⟨t, XS.i2c C.1 C.2.1 rfl (hb C.2.2 d) rfl st, f⟩
theorem Go.lcmp (C : Cx p below m c cd T) {x y : Int64} (d : Dec cd pc (.lcmp) 1 n)
    (k : Go p e below F T (mkF m n L (.int (lcm x y) :: r))) : Go p e below F T (mkF m pc L (.long y :: .long x :: r)) := by
  obtain ⟨t, st, f⟩ := k; obtain ⟨d, rfl⟩ := d
  exact ⟨t, XS.lcmp C.1 C.2.1 rfl (hb C.2.2 d) rfl st, f⟩
theorem Go.dup (C : Cx p below m c cd T) {x : Value} (d : Dec cd pc (.dup) 1 n) (hc : x.category = 1)
    (k : Go p e below F T (mkF m n L (x :: x :: r))) : Go p e below F T (mkF m pc L (x :: r)) := by
  obtain ⟨t, st, f⟩ := k; obtain ⟨d, rfl⟩ := d
  exact ⟨t, XS.dup C.1 C.2.1 rfl (hb C.2.2 d) rfl hc st, f⟩
theorem Go.pop (C : Cx p below m c cd T) {x : Value} (d : Dec cd pc (.pop) 1 n) (hc : x.category = 1)
    (k : Go p e below F T (mkF m n L r)) : Go p e below F T (mkF m pc L (x :: r)) := by
  obtain ⟨t, st, f⟩ := k; obtain ⟨d, rfl⟩ := d
  exact ⟨t, XS.pop C.1 C.2.1 rfl (hb C.2.2 d) rfl hc st, f⟩
theorem Go.istore_n (C : Cx p below m c cd T) {k : Fin 4} {x : Int32} {L' : Array Slot} (d : Dec cd pc (.istore_n k) 1 n) (hl : storeLocals L k.val (.int x) = some L')
    (k : Go p e below F T (mkF m n L' r)) : Go p e below F T (mkF m pc L (.int x :: r)) := by
  obtain ⟨t, st, f⟩ := k; obtain ⟨d, rfl⟩ := d
  exact ⟨t, XS.istoreN C.1 C.2.1 rfl (hb C.2.2 d) rfl hl st, f⟩
theorem Go.istore (C : Cx p below m c cd T) {k : Nat} {x : Int32} {L' : Array Slot} (d : Dec cd pc (.istore k) 2 n) (hl : storeLocals L k (.int x) = some L')
    (k : Go p e below F T (mkF m n L' r)) : Go p e below F T (mkF m pc L (.int x :: r)) := by
  obtain ⟨t, st, f⟩ := k; obtain ⟨d, rfl⟩ := d
  exact ⟨t, XS.istore C.1 C.2.1 rfl (hb C.2.2 d) rfl hl st, f⟩
theorem Go.lstore_n (C : Cx p below m c cd T) {k : Fin 4} {x : Int64} {L' : Array Slot} (d : Dec cd pc (.lstore_n k) 1 n) (hl : storeLocals L k.val (.long x) = some L')
    (k : Go p e below F T (mkF m n L' r)) : Go p e below F T (mkF m pc L (.long x :: r)) := by
  obtain ⟨t, st, f⟩ := k; obtain ⟨d, rfl⟩ := d
  exact ⟨t, XS.lstoreN C.1 C.2.1 rfl (hb C.2.2 d) rfl hl st, f⟩
theorem Go.lstore (C : Cx p below m c cd T) {k : Nat} {x : Int64} {L' : Array Slot} (d : Dec cd pc (.lstore k) 2 n) (hl : storeLocals L k (.long x) = some L')
    (k : Go p e below F T (mkF m n L' r)) : Go p e below F T (mkF m pc L (.long x :: r)) := by
  obtain ⟨t, st, f⟩ := k; obtain ⟨d, rfl⟩ := d
  exact ⟨t, XS.lstore C.1 C.2.1 rfl (hb C.2.2 d) rfl hl st, f⟩
theorem Go.astore_n (C : Cx p below m c cd T) {k : Fin 4} {x : Value} {L' : Array Slot} (d : Dec cd pc (.astore_n k) 1 n) (hv : x.isRef = true) (hl : storeLocals L k.val x = some L')
    (k : Go p e below F T (mkF m n L' r)) : Go p e below F T (mkF m pc L (x :: r)) := by
  obtain ⟨t, st, f⟩ := k; obtain ⟨d, rfl⟩ := d
  exact ⟨t, XS.astoreN C.1 C.2.1 rfl (hb C.2.2 d) rfl hv hl st, f⟩
theorem Go.astore (C : Cx p below m c cd T) {k : Nat} {x : Value} {L' : Array Slot} (d : Dec cd pc (.astore k) 2 n) (hv : x.isRef = true) (hl : storeLocals L k x = some L')
    (k : Go p e below F T (mkF m n L' r)) : Go p e below F T (mkF m pc L (x :: r)) := by
  obtain ⟨t, st, f⟩ := k; obtain ⟨d, rfl⟩ := d
  exact ⟨t, XS.astore C.1 C.2.1 rfl (hb C.2.2 d) rfl hv hl st, f⟩
theorem Go.iinc (C : Cx p below m c cd T) {k : Nat} {i : Int} {x z : Int32} {L' : Array Slot} (d : Dec cd pc (.iinc k i) 3 n) (hl : L[k]? = some (.val (.int x))) (hz : x + Int32.ofInt i = z) (hl' : storeLocals L k (.int z) = some L')
    (k : Go p e below F T (mkF m n L' r)) : Go p e below F T (mkF m pc L r) := by
  obtain ⟨t, st, f⟩ := k; obtain ⟨d, rfl⟩ := d
  exact ⟨t, XS.iinc C.1 C.2.1 rfl (hb C.2.2 d) hl (hz ▸ hl') st, f⟩
theorem Go.irem (C : Cx p below m c cd T) {x y : Int32} (d : Dec cd pc (.irem) 1 n) (hy : y ≠ 0)
    (k : Go p e below F T (mkF m n L (.int (x % y) :: r))) : Go p e below F T (mkF m pc L (.int y :: .int x :: r)) := by
  obtain ⟨t, st, f⟩ := k; obtain ⟨d, rfl⟩ := d
  exact ⟨t, XS.irem C.1 C.2.1 rfl (hb C.2.2 d) rfl hy (by rw [irem_eq_mod]; exact st), f⟩
theorem Go.lconst (C : Cx p below m c cd T) {k0 : Fin 2} {z : Int64} (d : Dec cd pc (.lconst k0) 1 n) (hz : Int64.ofNat k0 = z)
    (k : Go p e below F T (mkF m n L (.long z :: r))) : Go p e below F T (mkF m pc L r) := by
  obtain ⟨t, st, f⟩ := k; obtain ⟨d, rfl⟩ := d
  subst hz; exact ⟨t, XS.lconst C.1 C.2.1 rfl (hb C.2.2 d) st, f⟩
theorem Go.goto (C : Cx p below m c cd T) {o : Int} {q : Nat} (d : Dec cd pc (.goto o) 3 n) (ho : 0 ≤ (pc : Int) + o) (hp : ((pc : Int) + o).toNat = q)
    (k : Go p e below F T (mkF m q L r)) : Go p e below F T (mkF m pc L r) := by
  obtain ⟨t, st, f⟩ := k; obtain ⟨d, rfl⟩ := d
  exact ⟨t, XS.goto C.1 C.2.1 rfl (pc0 := pc) rfl (hb C.2.2 d) ho hp st, f⟩
theorem Go.ifb (C : Cx p below m c cd T) {cc : ClassFile.Cond} {x : Int32} {o : Int} {q : Nat} (d : Dec cd pc (.ifCond cc o) 3 n) (ho : 0 ≤ (pc : Int) + o) (hp : ((pc : Int) + o).toNat = q)
    (k1 : ifCond.holds cc x = true → Go p e below F T (mkF m q L r)) (k2 : ifCond.holds cc x = false → Go p e below F T (mkF m n L r)) : Go p e below F T (mkF m pc L (.int x :: r)) := by
  obtain ⟨d, rfl⟩ := d
  cases hc : ifCond.holds cc x
  · obtain ⟨t, st, f⟩ := k2 hc; exact ⟨t, XS.ifNo C.1 C.2.1 rfl (hb C.2.2 d) rfl hc st, f⟩
  · obtain ⟨t, st, f⟩ := k1 hc; exact ⟨t, XS.ifYes C.1 C.2.1 rfl (pc0 := pc) rfl (hb C.2.2 d) rfl hc ho hp st, f⟩
theorem Go.icb (C : Cx p below m c cd T) {cc : ClassFile.Cond} {x y : Int32} {o : Int} {q : Nat} (d : Dec cd pc (.if_icmp cc o) 3 n) (ho : 0 ≤ (pc : Int) + o) (hp : ((pc : Int) + o).toNat = q)
    (k1 : if_icmp.holds cc x y = true → Go p e below F T (mkF m q L r)) (k2 : if_icmp.holds cc x y = false → Go p e below F T (mkF m n L r)) : Go p e below F T (mkF m pc L (.int y :: .int x :: r)) := by
  obtain ⟨d, rfl⟩ := d
  cases hc : if_icmp.holds cc x y
  · obtain ⟨t, st, f⟩ := k2 hc; exact ⟨t, XS.icmpNo C.1 C.2.1 rfl (hb C.2.2 d) rfl hc st, f⟩
  · obtain ⟨t, st, f⟩ := k1 hc; exact ⟨t, XS.icmpYes C.1 C.2.1 rfl (pc0 := pc) rfl (hb C.2.2 d) rfl hc ho hp st, f⟩
theorem Go.ifeq (C : Cx p below m c cd T) {x : Int32} {o : Int} {q : Nat} (d : Dec cd pc (.ifCond .eq o) 3 n) (ho : 0 ≤ (pc : Int) + o) (hp : ((pc : Int) + o).toNat = q)
    (k1 : x = 0 → Go p e below F T (mkF m q L r)) (k2 : ¬ x = 0 → Go p e below F T (mkF m n L r)) : Go p e below F T (mkF m pc L (.int x :: r)) :=
  Go.ifb C d ho hp (fun h => k1 (by simpa [ifCond.holds] using h)) (fun h => k2 (by simpa [ifCond.holds] using h))
theorem Go.ifne (C : Cx p below m c cd T) {x : Int32} {o : Int} {q : Nat} (d : Dec cd pc (.ifCond .ne o) 3 n) (ho : 0 ≤ (pc : Int) + o) (hp : ((pc : Int) + o).toNat = q)
    (k1 : ¬ x = 0 → Go p e below F T (mkF m q L r)) (k2 : x = 0 → Go p e below F T (mkF m n L r)) : Go p e below F T (mkF m pc L (.int x :: r)) :=
  Go.ifb C d ho hp (fun h => k1 (by simpa [ifCond.holds] using h)) (fun h => k2 (by simpa [ifCond.holds] using h))
theorem Go.iflt (C : Cx p below m c cd T) {x : Int32} {o : Int} {q : Nat} (d : Dec cd pc (.ifCond .lt o) 3 n) (ho : 0 ≤ (pc : Int) + o) (hp : ((pc : Int) + o).toNat = q)
    (k1 : x < 0 → Go p e below F T (mkF m q L r)) (k2 : ¬ x < 0 → Go p e below F T (mkF m n L r)) : Go p e below F T (mkF m pc L (.int x :: r)) :=
  Go.ifb C d ho hp (fun h => k1 (by simpa [ifCond.holds] using h)) (fun h => k2 (by simpa [ifCond.holds] using h))
theorem Go.ifge (C : Cx p below m c cd T) {x : Int32} {o : Int} {q : Nat} (d : Dec cd pc (.ifCond .ge o) 3 n) (ho : 0 ≤ (pc : Int) + o) (hp : ((pc : Int) + o).toNat = q)
    (k1 : ¬ x < 0 → Go p e below F T (mkF m q L r)) (k2 : x < 0 → Go p e below F T (mkF m n L r)) : Go p e below F T (mkF m pc L (.int x :: r)) :=
  Go.ifb C d ho hp (fun h => k1 (by simpa [ifCond.holds] using h)) (fun h => k2 (by simpa [ifCond.holds] using h))
theorem Go.ifgt (C : Cx p below m c cd T) {x : Int32} {o : Int} {q : Nat} (d : Dec cd pc (.ifCond .gt o) 3 n) (ho : 0 ≤ (pc : Int) + o) (hp : ((pc : Int) + o).toNat = q)
    (k1 : 0 < x → Go p e below F T (mkF m q L r)) (k2 : ¬ 0 < x → Go p e below F T (mkF m n L r)) : Go p e below F T (mkF m pc L (.int x :: r)) :=
  Go.ifb C d ho hp (fun h => k1 (by simpa [ifCond.holds] using h)) (fun h => k2 (by simpa [ifCond.holds] using h))
theorem Go.ifle (C : Cx p below m c cd T) {x : Int32} {o : Int} {q : Nat} (d : Dec cd pc (.ifCond .le o) 3 n) (ho : 0 ≤ (pc : Int) + o) (hp : ((pc : Int) + o).toNat = q)
    (k1 : ¬ 0 < x → Go p e below F T (mkF m q L r)) (k2 : 0 < x → Go p e below F T (mkF m n L r)) : Go p e below F T (mkF m pc L (.int x :: r)) :=
  Go.ifb C d ho hp (fun h => k1 (by simpa [ifCond.holds] using h)) (fun h => k2 (by simpa [ifCond.holds] using h))
theorem Go.iceq (C : Cx p below m c cd T) {x y : Int32} {o : Int} {q : Nat} (d : Dec cd pc (.if_icmp .eq o) 3 n) (ho : 0 ≤ (pc : Int) + o) (hp : ((pc : Int) + o).toNat = q)
    (k1 : x = y → Go p e below F T (mkF m q L r)) (k2 : ¬ x = y → Go p e below F T (mkF m n L r)) : Go p e below F T (mkF m pc L (.int y :: .int x :: r)) :=
  Go.icb C d ho hp (fun h => k1 (by simpa [if_icmp.holds] using h)) (fun h => k2 (by simpa [if_icmp.holds] using h))
theorem Go.icne (C : Cx p below m c cd T) {x y : Int32} {o : Int} {q : Nat} (d : Dec cd pc (.if_icmp .ne o) 3 n) (ho : 0 ≤ (pc : Int) + o) (hp : ((pc : Int) + o).toNat = q)
    (k1 : ¬ x = y → Go p e below F T (mkF m q L r)) (k2 : x = y → Go p e below F T (mkF m n L r)) : Go p e below F T (mkF m pc L (.int y :: .int x :: r)) :=
  Go.icb C d ho hp (fun h => k1 (by simpa [if_icmp.holds] using h)) (fun h => k2 (by simpa [if_icmp.holds] using h))
theorem Go.iclt (C : Cx p below m c cd T) {x y : Int32} {o : Int} {q : Nat} (d : Dec cd pc (.if_icmp .lt o) 3 n) (ho : 0 ≤ (pc : Int) + o) (hp : ((pc : Int) + o).toNat = q)
    (k1 : x < y → Go p e below F T (mkF m q L r)) (k2 : ¬ x < y → Go p e below F T (mkF m n L r)) : Go p e below F T (mkF m pc L (.int y :: .int x :: r)) :=
  Go.icb C d ho hp (fun h => k1 (by simpa [if_icmp.holds] using h)) (fun h => k2 (by simpa [if_icmp.holds] using h))
theorem Go.icge (C : Cx p below m c cd T) {x y : Int32} {o : Int} {q : Nat} (d : Dec cd pc (.if_icmp .ge o) 3 n) (ho : 0 ≤ (pc : Int) + o) (hp : ((pc : Int) + o).toNat = q)
    (k1 : ¬ x < y → Go p e below F T (mkF m q L r)) (k2 : x < y → Go p e below F T (mkF m n L r)) : Go p e below F T (mkF m pc L (.int y :: .int x :: r)) :=
  Go.icb C d ho hp (fun h => k1 (by simpa [if_icmp.holds] using h)) (fun h => k2 (by simpa [if_icmp.holds] using h))
theorem Go.icgt (C : Cx p below m c cd T) {x y : Int32} {o : Int} {q : Nat} (d : Dec cd pc (.if_icmp .gt o) 3 n) (ho : 0 ≤ (pc : Int) + o) (hp : ((pc : Int) + o).toNat = q)
    (k1 : y < x → Go p e below F T (mkF m q L r)) (k2 : ¬ y < x → Go p e below F T (mkF m n L r)) : Go p e below F T (mkF m pc L (.int y :: .int x :: r)) :=
  Go.icb C d ho hp (fun h => k1 (by simpa [if_icmp.holds] using h)) (fun h => k2 (by simpa [if_icmp.holds] using h))
theorem Go.icle (C : Cx p below m c cd T) {x y : Int32} {o : Int} {q : Nat} (d : Dec cd pc (.if_icmp .le o) 3 n) (ho : 0 ≤ (pc : Int) + o) (hp : ((pc : Int) + o).toNat = q)
    (k1 : ¬ y < x → Go p e below F T (mkF m q L r)) (k2 : y < x → Go p e below F T (mkF m n L r)) : Go p e below F T (mkF m pc L (.int y :: .int x :: r)) :=
  Go.icb C d ho hp (fun h => k1 (by simpa [if_icmp.holds] using h)) (fun h => k2 (by simpa [if_icmp.holds] using h))
theorem Go.ifnull_y (C : Cx p below m c cd T) {o : Int} {q : Nat} (d : Dec cd pc (.ifnull o) 3 n) (ho : 0 ≤ (pc : Int) + o) (hp : ((pc : Int) + o).toNat = q)
    (k : Go p e below F T (mkF m q L r)) : Go p e below F T (mkF m pc L (.null :: r)) := by
  obtain ⟨t, st, f⟩ := k; obtain ⟨d, rfl⟩ := d
  exact ⟨t, XS.ifnullYes C.1 C.2.1 rfl (pc0 := pc) rfl (hb C.2.2 d) rfl ho hp st, f⟩
theorem Go.ifnull_n (C : Cx p below m c cd T) {o : Int} {a : Addr} (d : Dec cd pc (.ifnull o) 3 n)
    (k : Go p e below F T (mkF m n L r)) : Go p e below F T (mkF m pc L (.ref a :: r)) := by
  obtain ⟨t, st, f⟩ := k; obtain ⟨d, rfl⟩ := d
  exact ⟨t, XS.ifnullNo C.1 C.2.1 rfl (hb C.2.2 d) rfl st, f⟩
theorem Go.ifnonnull_y (C : Cx p below m c cd T) {o : Int} {q : Nat} {a : Addr} (d : Dec cd pc (.ifnonnull o) 3 n) (ho : 0 ≤ (pc : Int) + o) (hp : ((pc : Int) + o).toNat = q)
    (k : Go p e below F T (mkF m q L r)) : Go p e below F T (mkF m pc L (.ref a :: r)) := by
  obtain ⟨t, st, f⟩ := k; obtain ⟨d, rfl⟩ := d
  exact ⟨t, XS.ifnonnullYes C.1 C.2.1 rfl (pc0 := pc) rfl (hb C.2.2 d) rfl ho hp st, f⟩
theorem Go.ifnonnull_n (C : Cx p below m c cd T) {o : Int} (d : Dec cd pc (.ifnonnull o) 3 n)
    (k : Go p e below F T (mkF m n L r)) : Go p e below F T (mkF m pc L (.null :: r)) := by
  obtain ⟨t, st, f⟩ := k; obtain ⟨d, rfl⟩ := d
  exact ⟨t, XS.ifnonnullNo C.1 C.2.1 rfl (hb C.2.2 d) rfl st, f⟩
end Plain
section Walk
/-- a walk stands at T, the heap h: over its own start s whose tables may have come to vm0; what xs names is the walk's own to write -/
def Wk (nw : Prop) (EL : List (String × Nat)) (n0 : Nat) (Z : State) (a0 : Array Value) (own nm : String) (cd : ByteArray) (ml : Nat) (ret : Option FieldType) (p : Program) (l : Launch) (e : Env) (R : Room) (s : State) (m : MethodId) (args : Array Value) (below : List Frame) (meth : Method) (c : Code) (T : State) (h : Heap) (xs : List Addr) (cells slots : Nat) : Prop :=
  ∃ (vm0 : Vm) (k0 : Nat) (locs : List Loc), Stand p l e R (s.setVm vm0) m args below meth c T locs cells slots ∧ T.heap = h ∧ s.Since vm0 k0 ∧ k0 ≤ h.size ∧ (nw → s.WarmedH vm0) ∧ Z.Warmed39 vm0 ∧ vm0.findClass own = some m.cls ∧ EW Z a0 EL ∧ CHr Z EL s.vm s.heap vm0 h ∧ Fr n0 locs ∧ Old Z n0 h ∧
    (∀ x ∈ xs, n0 ≤ x ∧ x < h.size ∧ Safe Z EL vm0 h x) ∧ p.tables.exec = Jvm.exec ∧ c.code = cd ∧ c.maxLocals = ml ∧ meth.sig.returnType = ret ∧ meth.locks = false ∧ meth.name = nm
/-- how a body's walk ends -/
def Endp (nw : Prop) (EL : List (String × Nat)) (n0 : Nat) (Z : State) (below : List Frame) (s : State) (kc ks : Nat) (Q : Option Value → Heap → Prop) (t : State) : Prop :=
  t.status = .running ∧ ∃ v Lc, Ended t below (.returned v) ∧ Q v t.heap ∧ Fr n0 Lc ∧ Old Z n0 t.heap ∧ CHr Z EL s.vm s.heap t.vm t.heap ∧ ReturnedEndW s (.returned v) t Lc kc ks ∧ (nw → s.WarmedH t.vm)
/-- a body's contract -/
def Ctr (nw : Prop) (EL : List (String × Nat)) (n0 : Nat) (Z : State) (xs : List Addr) (l : Launch) (y : MethodName) (bytes : ByteArray) (maxL : Nat) (ret : Option FieldType) (rm : Room) (as' : Array Value) (h : Heap) (Q : Option Value → Heap → Prop) : Prop :=
  ∀ ws, MetFree l y (head1 (Cond.code y bytes maxL ret :: ws) rm) (fun a U => a = as' ∧ U.heap = h ∧ Z.Warmed39 U.vm ∧ CHv Z EL U.vm h ∧ ∀ x ∈ xs, Safe Z EL U.vm h x) (fun _ _ _ _ _ => True)
    (fun _ U o U' => ∃ v Lc, o = .returned v ∧ Q v U'.heap ∧ Fr n0 Lc ∧ Old Z n0 U'.heap ∧ CHr Z EL U.vm U.heap U'.vm U'.heap ∧ ReturnedEndW U o U' Lc rm.cells rm.slots ∧ (nw → U.WarmedH U'.vm))
/-- a call that comes back -/
def Call (nw : Prop) (EL : List (String × Nat)) (n0 : Nat) (Z : State) (xs : List Addr) (l : Launch) (R : Room) (p : Program) (e : Env) (below : List Frame) (s : State) (args : Array Value) (y : MethodName) (len W : Nat) (as' : Array Value) (h : Heap) (kc ks : Nat) (Q : Option Value → Heap → Prop) : Prop :=
  ∀ vm0, Z.Warmed39 vm0 → CHv Z EL vm0 h → Old Z n0 h → (∀ x ∈ xs, n0 ≤ x ∧ x < h.size ∧ Safe Z EL vm0 h x) →
    BackS l R p e below (s.setVm vm0) args y len W (fun A a => a = as' ∧ A.U.heap = h ∧ A.cells + kc ≤ R.cells ∧ A.slots + ks ≤ R.slots)
      (fun A _ v B => ∃ Lc, Q v B.U.heap ∧ B.locs = A.locs ++ Lc ∧ B.cells = A.cells + kc ∧ B.slots = A.slots + ks ∧ Fr n0 Lc ∧ Old Z n0 B.U.heap ∧ CHr Z EL vm0 h B.U.vm B.U.heap ∧ (nw → (s.setVm vm0).WarmedH B.U.vm))
/-- what a body hands back: a value, or nothing -/
def RV (Q : Value → Heap → Prop) (v : Option Value) (h : Heap) : Prop := ∃ w, v = some w ∧ Q w h
def RN (Q : Heap → Prop) (v : Option Value) (h : Heap) : Prop := v = none ∧ Q h
variable {nw : Prop} {EL : List (String × Nat)} {n0 : Nat} {Z : State} {a0 : Array Value} {own nm : String} {cd : ByteArray} {ml : Nat} {ret : Option FieldType} {p : Program} {l : Launch} {e : Env} {R : Room} {s : State} {m : MethodId} {args : Array Value} {below : List Frame} {meth : Method} {c : Code} {T : State} {h : Heap} {xs : List Addr} {cells slots : Nat}
variable {F : State → Prop} {pc n : Nat} {L : Array Slot} {r : List Value}
theorem Wk.cx (W : Wk nw EL n0 Z a0 own nm cd ml ret p l e R s m args below meth c T h xs cells slots) : Cx p below m c cd T := by
  obtain ⟨vm0, k0, locs, X, eT, hS, hk, hn, hZ, ho, hE, hC, hF, hO, hxs, hx, hby, rest⟩ := W
  exact ⟨X.here, hx, hby⟩
theorem Wk.old (W : Wk nw EL n0 Z a0 own nm cd ml ret p l e R s m args below meth c T h xs cells slots) : Old Z n0 h := by
  obtain ⟨vm0, k0, locs, X, eT, hS, hk, hn, hZ, ho, hE, hC, hF, hO, hxs, rest⟩ := W
  exact hO
theorem Wk.ew (W : Wk nw EL n0 Z a0 own nm cd ml ret p l e R s m args below meth c T h xs cells slots) : EW Z a0 EL := by
  obtain ⟨vm0, k0, locs, X, eT, hS, hk, hn, hZ, ho, hE, rest⟩ := W
  exact hE
theorem old_le (hO : Old Z n0 h) : n0 ≤ h.size := hO.1 ▸ hO.2.1
theorem Wk.mine (W : Wk nw EL n0 Z a0 own nm cd ml ret p l e R s m args below meth c T h xs cells slots) {x : Addr} (hm : x ∈ xs) : n0 ≤ x ∧ x < h.size := by
  obtain ⟨vm0, k0, locs, X, eT, hS, hk, hn, hZ, ho, hE, hC, hF, hO, hxs, rest⟩ := W
  exact ⟨(hxs x hm).1, (hxs x hm).2.1⟩
theorem Wk.mono (W : Wk nw EL n0 Z a0 own nm cd ml ret p l e R s m args below meth c T h xs cells slots) {cells' slots' : Nat} (h1 : cells ≤ cells') (h2 : slots ≤ slots') : Wk nw EL n0 Z a0 own nm cd ml ret p l e R s m args below meth c T h xs cells' slots' := by
  obtain ⟨vm0, k0, locs, X, rest⟩ := W
  exact ⟨vm0, k0, locs, ⟨X.admits, X.cas, X.clock, X.frames, X.room, X.hears, X.method, X.code, X.here, X.tail, X.warmed, X.limits, X.bytes, X.same.mono h1 h2⟩, rest⟩
theorem Wk.less (W : Wk nw EL n0 Z a0 own nm cd ml ret p l e R s m args below meth c T h xs cells slots) {xs' : List Addr} (hs : ∀ x ∈ xs', x ∈ xs) : Wk nw EL n0 Z a0 own nm cd ml ret p l e R s m args below meth c T h xs' cells slots := by
  obtain ⟨vm0, k0, locs, X, eT, hS, hk, hn, hZ, ho, hE, hC, hF, hO, hxs, rest⟩ := W
  exact ⟨vm0, k0, locs, X, eT, hS, hk, hn, hZ, ho, hE, hC, hF, hO, fun x q => hxs x (hs x q), rest⟩
theorem Wk.exa (W : Wk nw EL n0 Z a0 own nm cd ml ret p l e R s m args below meth c T h xs cells slots) {x : Addr} {C : String} (E : Exa Z h x C) (hx : n0 ≤ x) (h1 : C ≠ "java/lang/String") (h2 : C ≠ "[B") : Wk nw EL n0 Z a0 own nm cd ml ret p l e R s m args below meth c T h (x :: xs) cells slots := by
  obtain ⟨vm0, k0, locs, X, eT, hS, hk, hn, hZ, ho, hE, hC, hF, hO, hxs, rest⟩ := W
  refine ⟨vm0, k0, locs, X, eT, hS, hk, hn, hZ, ho, hE, hC, hF, hO, fun y q => ?_, rest⟩
  rcases List.mem_cons.mp q with rfl | q
  · exact ⟨hx, E.lt, Safe.exa hZ.alike E h1 h2⟩
  · exact hxs y q
theorem Wk.arv (W : Wk nw EL n0 Z a0 own nm cd ml ret p l e R s m args below meth c T h xs cells slots) {x : Addr} {k : ClassId} {ty : FieldType} {z : Int32} {vs : List Value} {dv : Value} (E : Arv Z h x k ty z vs dv) (hx : n0 ≤ x) (h1 : ty ≠ .byte) : Wk nw EL n0 Z a0 own nm cd ml ret p l e R s m args below meth c T h (x :: xs) cells slots := by
  obtain ⟨vm0, k0, locs, X, eT, hS, hk, hn, hZ, ho, hE, hC, hF, hO, hxs, rest⟩ := W
  refine ⟨vm0, k0, locs, X, eT, hS, hk, hn, hZ, ho, hE, hC, hF, hO, fun y q => ?_, rest⟩
  rcases List.mem_cons.mp q with rfl | q
  · exact ⟨hx, E.lt, Safe.arv hZ.alike E h1⟩
  · exact hxs y q
/-- getfield -/
theorem Go.getf (W : Wk nw EL n0 Z a0 own nm cd ml ret p l e R s m args below meth c T h xs cells slots) {R0 O f ty : String} {ix : Nat} {a : Addr} {v : Value} (d : Dec cd pc (.getfield ix) 3 n) (w : (Cond.fieldLink own ix R0 f ty).before a0 Z = true) (via : Via Z R0 O f ty) (Fl : Fld Z h a O f ty v)
    (k : ∀ T', Wk nw EL n0 Z a0 own nm cd ml ret p l e R s m args below meth c T' h xs cells slots → Go p e below F T' (mkF m n L (v :: r))) : Go p e below F T (mkF m pc L (.ref a :: r)) := by
  obtain ⟨vm0, k0, locs, X, eT, hS, hk, hn, hZ, ho, hE, hC, hF, hO, hxs, hx, hby, rest⟩ := W
  obtain ⟨d, rfl⟩ := d
  obtain ⟨T', X', e', st⟩ := getF X hx hZ ho (host := "") (Or.inl w) via eT Fl (g := mkF m pc L (.ref a :: r)) rfl rfl (hb hby d)
  exact Go.st st (k T' ⟨vm0, k0, locs, X', e', hS, hk, hn, hZ, ho, hE, hC, hF, hO, hxs, hx, hby, rest⟩)
/-- getstatic -/
theorem Go.gets (W : Wk nw EL n0 Z a0 own nm cd ml ret p l e R s m args below meth c T h xs cells slots) {R0 O f ty : String} {ix : Nat} {v : Value} (d : Dec cd pc (.getstatic ix) 3 n) (w : (Cond.fieldLink own ix R0 f ty).before a0 Z = true) (via : Via Z R0 O f ty) (Fl : Sta Z Z.heap O f ty v)
    (k : ∀ T', Wk nw EL n0 Z a0 own nm cd ml ret p l e R s m args below meth c T' h xs cells slots → Go p e below F T' (mkF m n L (v :: r))) : Go p e below F T (mkF m pc L r) := by
  obtain ⟨vm0, k0, locs, X, eT, hS, hk, hn, hZ, ho, hE, hC, hF, hO, hxs, hx, hby, rest⟩ := W
  obtain ⟨d, rfl⟩ := d
  obtain ⟨T', X', e', st⟩ := getS (host := "") X hx hZ ho w via eT (Fl.ext hO.2) (g := mkF m pc L r) rfl (hb hby d)
  exact Go.st st (k T' ⟨vm0, k0, locs, X', e', hS, hk, hn, hZ, ho, hE, hC, hF, hO, hxs, hx, hby, rest⟩)
/-- putfield on an object of the walk's own -/
theorem Go.putf (W : Wk nw EL n0 Z a0 own nm cd ml ret p l e R s m args below meth c T h xs cells slots) {R0 O f ty C : String} {ix kk : Nat} {t : FieldType} {a : Addr} {v v' old : Value} (d : Dec cd pc (.putfield ix) 3 n) (w : (Cond.fieldLink own ix R0 f ty).before a0 Z = true) (via : Via Z R0 O f ty) (Fl : Fld Z h a O f ty old) (E : Exa Z h a C)
    (hl : (Cond.lays C O f ty).before a0 Z = true ∨ ((Cond.laysFinal C O f ty).before a0 Z = true ∧ own = O ∧ nm = "<init>")) (wi : (Cond.instantiable C kk).before a0 Z = true) (hty : parseFieldDescriptor ty = some t) (hnv : narrow t v = v') (hf : fits t v' = true) (ha : a ∈ xs)
    (k : ∀ T' h', Wk nw EL n0 Z a0 own nm cd ml ret p l e R s m args below meth c T' h' xs cells slots → Wr h h' a (RoadKit.slotOf Z O f ty) v' → Go p e below F T' (mkF m n L r)) : Go p e below F T (mkF m pc L (v :: .ref a :: r)) := by
  obtain ⟨vm0, k0, locs, X, eT, hS, hk, hn, hZ, ho, hE, hC, hF, hO, hxs, hx, hby, hml, hrt, hlk, hnm⟩ := W
  obtain ⟨d, rfl⟩ := d
  obtain ⟨T', h', X', e', Wr', st⟩ := putFN X hx hZ ho w via eT Fl E (hl.imp id fun q => ⟨q.1, q.2.1, hnm.trans q.2.2⟩) wi hty hnv hf (g := mkF m pc L (v :: .ref a :: r)) rfl rfl (hb hby d)
  have q := hxs a ha
  have C1 := CHr.wr Wr' q.2.2 hC.1
  have sz : h'.size = h.size := Wr'.size
  exact Go.st st (k T' h' ⟨vm0, k0, _, X', e', hS, by rw [sz]; exact hk, hn, hZ, ho, hE, hC.trans C1, Fr.snoc X' hF q.1, hO.wr Wr' q.1, fun x hm => ⟨(hxs x hm).1, by rw [sz]; exact (hxs x hm).2.1, C1.safe (hxs x hm).2.1 (hxs x hm).2.2⟩, hx, hby, hml, hrt, hlk, hnm⟩ Wr')
/-- new -/
theorem Go.new (W : Wk nw EL n0 Z a0 own nm cd ml ret p l e R s m args below meth c T h xs cells slots) {C : String} {ix kk cells' slots' : Nat} (d : Dec cd pc (.new ix) 3 n) (w : (Cond.classLink own ix C).before a0 Z = true) (wi : (Cond.instantiable C kk).before a0 Z = true) (wz : (Cond.initialized C).before a0 Z = true)
    (hc : cells + 1 = cells') (hs : slots + kk = slots') (hc' : cells' ≤ R.cells) (hs' : slots' ≤ R.slots)
    (k : ∀ T' h' a, a = h.size → Wk nw EL n0 Z a0 own nm cd ml ret p l e R s m args below meth c T' h' (a :: xs) cells' slots' → Ext h h' → Exa Z h' a C → (∀ {O f ty : String} {t : FieldType}, Laid Z a0 C O f ty → parseFieldDescriptor ty = some t → Fld Z h' a O f ty (defaultValue t)) → Go p e below F T' (mkF m n L (.ref a :: r))) : Go p e below F T (mkF m pc L r) := by
  obtain ⟨vm0, k0, locs, X, eT, hS, hk, hn, hZ, ho, hE, hC, hF, hO, hxs, hx, hby, rest⟩ := W
  obtain ⟨d, rfl⟩ := d
  subst hc hs
  obtain ⟨T', h', X', e', E, A, D, -, st⟩ := newO X hx hZ ho w wi wz eT (g := mkF m pc L r) rfl (hb hby d) hc' hs'
  have C1 := CHr.ext E hC.1
  refine Go.st st (k T' h' h.size rfl ⟨vm0, k0, locs, X', e', hS, Nat.le_trans hk E.1, hn, hZ, ho, hE, hC.trans C1, hF, hO.ext E, fun x hm => ?_, hx, hby, rest⟩ E A (fun l t => D l t))
  rcases List.mem_cons.mp hm with rfl | hm
  · exact ⟨old_le hO, A.lt, Safe.ext E hC.1 (Safe.new (Nat.le_refl _))⟩
  · exact ⟨(hxs x hm).1, Nat.lt_of_lt_of_le (hxs x hm).2.1 E.1, C1.safe (hxs x hm).2.1 (hxs x hm).2.2⟩
/-- newarray -/
theorem Go.newarr (W : Wk nw EL n0 Z a0 own nm cd ml ret p l e R s m args below meth c T h xs cells slots) {aty : ArrayType} {z : Int32} {cap cells' slots' : Nat} (d : Dec cd pc (.newarray aty) 2 n) (w : (Cond.arrayClass (newarray.typeOf aty)).before a0 Z = true)
    (hz : ¬ z < 0) (hcap : z.toNatClampNeg ≤ cap) (hbig : cap * 8 ≤ 536870912) (hc : cells + 1 = cells') (hs : slots + cap = slots') (hc' : cells' ≤ R.cells) (hs' : slots' ≤ R.slots)
    (k : ∀ T' h' a ka, a = h.size → Wk nw EL n0 Z a0 own nm cd ml ret p l e R s m args below meth c T' h' (a :: xs) cells' slots' → Ext h h' → Arv Z h' a ka (newarray.typeOf aty) z [] (defaultValue (newarray.typeOf aty)) → Go p e below F T' (mkF m n L (.ref a :: r))) : Go p e below F T (mkF m pc L (.int z :: r)) := by
  obtain ⟨vm0, k0, locs, X, eT, hS, hk, hn, hZ, ho, hE, hC, hF, hO, hxs, hx, hby, rest⟩ := W
  obtain ⟨d, rfl⟩ := d
  subst hc hs
  obtain ⟨T', h', cA, X', e', E, A, st⟩ := newP X hx hZ w eT (g := mkF m pc L (.int z :: r)) rfl (hb hby d) rfl hz hcap hbig hc' hs'
  have C1 := CHr.ext E hC.1
  refine Go.st st (k T' h' h.size cA rfl ⟨vm0, k0, locs, X', e', hS, Nat.le_trans hk E.1, hn, hZ, ho, hE, hC.trans C1, hF, hO.ext E, fun x hm => ?_, hx, hby, rest⟩ E (Arv.new A hz))
  rcases List.mem_cons.mp hm with rfl | hm
  · exact ⟨old_le hO, A.lt, Safe.ext E hC.1 (Safe.new (Nat.le_refl _))⟩
  · exact ⟨(hxs x hm).1, Nat.lt_of_lt_of_le (hxs x hm).2.1 E.1, C1.safe (hxs x hm).2.1 (hxs x hm).2.2⟩
/-- Object.<init> -/
theorem Go.initObj (W : Wk nw EL n0 Z a0 own nm cd ml ret p l e R s m args below meth c T h xs cells slots) {ix wt : Nat} {a : Addr} (d : Dec cd pc (.invokespecial ix) 3 n) (w1 : (Cond.methodLink own ix Lib.objectInit).before a0 Z = true) (w2 : (Cond.instanceMethod Lib.objectInit).before a0 Z = true) (w3 : (Cond.code Lib.objectInit ⟨#[0xb1]⟩ 1 none).before a0 Z = true)
    (hsz : L.size = ml) (hf : 1 ≤ R.frames) (hw : (r.map fun v => v.category).sum = wt) (hl : wt + 12 ≤ R.locals)
    (k : ∀ T', Wk nw EL n0 Z a0 own nm cd ml ret p l e R s m args below meth c T' h xs cells slots → Go p e below F T' (mkF m n L r)) : Go p e below F T (mkF m pc L (.ref a :: r)) := by
  obtain ⟨vm0, k0, locs, X, eT, hS, hk, hn, hZ, ho, hE, hC, hF, hO, hxs, hx, hby, hml, rest⟩ := W
  obtain ⟨d, rfl⟩ := d
  obtain ⟨T', X', e', st⟩ := initO X hx hZ ho w1 w2 w3 eT (g := mkF m pc L (.ref a :: r)) rfl (hsz.trans hml.symm) rfl (hb hby d) hf (W := wt) (by show 2 * 0 + _ ≤ _; omega) hl
  exact Go.st st (k T' ⟨vm0, k0, locs, X', e', hS, hk, hn, hZ, ho, hE, hC, hF, hO, hxs, hx, hby, hml, rest⟩)
/-- a char[] of the walk, its chars -/
def CArr (Z : State) (h : Heap) (a : Addr) (ka : ClassId) (cs : List Int32) : Prop := Arv Z h a ka .char (Int32.ofNat cs.length) (cs.map Value.int) (.int 0)
theorem CArr.lt {a : Addr} {ka : ClassId} {cs : List Int32} (A : CArr Z h a ka cs) : a < h.size := Arv.lt A
theorem CArr.ext {h' : Heap} {a : Addr} {ka : ClassId} {cs : List Int32} (A : CArr Z h a ka cs) (E : Ext h h') : CArr Z h' a ka cs := Arv.ext A E
theorem CArr.keep {h' : Heap} {a : Addr} {ka : ClassId} {cs : List Int32} {ws : List Addr} (A : CArr Z h a ka cs) (K : Keep h h' ws) (q : a ∉ ws) : CArr Z h' a ka cs := Arv.keep A K q
theorem clamp_nat {i : Nat} (h : i < 2 ^ 31) : (Int32.ofNat i).toNatClampNeg = i := LawKit.clamp_of rfl h
theorem CArr.of_new {a : Addr} {ka : ClassId} {z : Int32} (A : Arv Z h a ka .char z [] (.int 0)) {cs : List Int32} {k : Nat} (hc : cs = List.replicate k 0) (hz : z = Int32.ofNat k) : CArr Z h a ka cs := by
  subst hc hz
  unfold CArr
  rw [List.length_replicate, List.map_replicate]
  exact Arv.pad A (fun i => by simpa using pad_rep [] (.int 0) k i)
theorem in_of {i k : Nat} {z : Int32} (hz : z = Int32.ofNat k) (hi : i < k) (hk : k < 2 ^ 31) : ¬ (Int32.ofNat i) < 0 ∧ (Int32.ofNat i) < z := by
  subst hz
  rw [Int32.lt_iff_toInt_lt, Int32.lt_iff_toInt_lt, LawKit.toInt_of (n := Int32.ofNat i) rfl (by omega), LawKit.toInt_of (n := Int32.ofNat k) rfl hk]
  constructor
  · show ¬ (i : Int) < 0; omega
  · omega
/-- castore into a char[] of the walk's own -/
theorem Go.castore (W : Wk nw EL n0 Z a0 own nm cd ml ret p l e R s m args below meth c T h xs cells slots) {a : Addr} {ka : ClassId} {cs : List Int32} {j x x' : Int32} (i : Nat) (d : Dec cd pc .castore 1 n) (A : CArr Z h a ka cs) (ha : a ∈ xs) (hj : j = Int32.ofNat i) (hi : i < cs.length) (hlen : cs.length < 2 ^ 31) (hx' : nar .char x = x')
    (k : ∀ T' h', Wk nw EL n0 Z a0 own nm cd ml ret p l e R s m args below meth c T' h' xs cells slots → Keep h h' [a] → CArr Z h' a ka (cs.set i x') → Go p e below F T' (mkF m n L r)) : Go p e below F T (mkF m pc L (.int x :: .int j :: .ref a :: r)) := by
  obtain ⟨vm0, k0, locs, X, eT, hS, hk, hn, hZ, ho, hE, hC, hF, hO, hxs, hx, hby, rest⟩ := W
  obtain ⟨d, rfl⟩ := d
  subst hx' hj
  obtain ⟨cl, A1, q1, S1, M1, H1, U1⟩ := id A
  have hin := inb_of S1 (in_of rfl hi hlen)
  obtain ⟨T', h', X', e', Wr', st⟩ := stC X hx hZ eT A1 hin (g := mkF m pc L (.int x :: .int (Int32.ofNat i) :: .ref a :: r)) rfl rfl (hb hby d)
  have q := hxs a ha
  have C1 := CHr.wr Wr' q.2.2 hC.1
  have sz : h'.size = h.size := Wr'.size
  have A2 : CArr Z h' a ka (cs.set i (nar .char x)) := by
    have B := Arv.set A1 q1 S1 M1 H1 U1 (fits_nar_char x) Wr' i (clamp_nat (by omega)) (by simpa using hi)
    unfold CArr
    rw [List.length_set, List.map_set]
    exact B
  exact Go.st st (k T' h' ⟨vm0, k0, _, X', e', hS, by rw [sz]; exact hk, hn, hZ, ho, hE, hC.trans C1, Fr.snoc X' hF q.1, hO.wr Wr' q.1, fun x hm => ⟨(hxs x hm).1, by rw [sz]; exact (hxs x hm).2.1, C1.safe (hxs x hm).2.1 (hxs x hm).2.2⟩, hx, hby, rest⟩ (Keep.of_wr Wr') A2)
/-- caload -/
theorem Go.caload (W : Wk nw EL n0 Z a0 own nm cd ml ret p l e R s m args below meth c T h xs cells slots) {a : Addr} {ka : ClassId} {cs : List Int32} {j v : Int32} (i : Nat) (d : Dec cd pc .caload 1 n) (A : CArr Z h a ka cs) (hj : j = Int32.ofNat i) (hi : i < cs.length) (hlen : cs.length < 2 ^ 31) (hv : cs.getD i 0 = v)
    (k : Go p e below F T (mkF m n L (.int v :: r))) : Go p e below F T (mkF m pc L (.int j :: .ref a :: r)) := by
  obtain ⟨vm0, k0, locs, X, eT, hS, hk, hn, hZ, ho, hE, hC, hF, hO, hxs, hx, hby, rest⟩ := W
  obtain ⟨d, rfl⟩ := d
  subst hj
  obtain ⟨cl, A1, q1, S1, M1, H1, U1⟩ := id A
  have hin := inb_of S1 (in_of rfl hi hlen)
  have hat := Has.at (v := .int v) H1 hin (by rw [clamp_nat (by omega)]; simp only [List.getD_eq_getElem?_getD, List.getElem?_map] at hv ⊢; rw [List.getElem?_eq_getElem hi] at hv ⊢; simpa using hv)
  exact Go.st (fun t st => X.caload hx (by rw [eT]; exact A1.1) (State.isArrayOf_alike hZ.alike A1.2.1) A1.2.2 hin hat (g := mkF m pc L (.int (Int32.ofNat i) :: .ref a :: r)) rfl rfl (hb hby d) t st) k
/-- arraylength -/
theorem Go.alen (W : Wk nw EL n0 Z a0 own nm cd ml ret p l e R s m args below meth c T h xs cells slots) {a : Addr} {ka : ClassId} {ty : FieldType} {z : Int32} {vs : List Value} {dv : Value} (d : Dec cd pc .arraylength 1 n) (A : Arv Z h a ka ty z vs dv)
    (k : Go p e below F T (mkF m n L (.int z :: r))) : Go p e below F T (mkF m pc L (.ref a :: r)) := by
  obtain ⟨vm0, k0, locs, X, eT, hS, hk, hn, hZ, ho, hE, hC, hF, hO, hxs, hx, hby, rest⟩ := W
  obtain ⟨d, rfl⟩ := d
  obtain ⟨cl, A1, q1, S1, M1, H1, U1⟩ := id A
  have e1 := len_of S1 M1
  exact Go.st (fun t st => X.arraylength hx (by rw [eT]; exact A1.1) (State.isArrayOf_alike hZ.alike A1.2.1) (g := mkF m pc L (.ref a :: r)) rfl rfl (hb hby d) t (by rw [e1]; exact st)) k
/-- ldc of an int -/
theorem Go.ldcI (W : Wk nw EL n0 Z a0 own nm cd ml ret p l e R s m args below meth c T h xs cells slots) {ix : Nat} {v : Int32} (d : Dec cd pc (.ldc ix) 2 n) (w : (Cond.constant own ix v).before a0 Z = true)
    (k : Go p e below F T (mkF m n L (.int v :: r))) : Go p e below F T (mkF m pc L r) := by
  obtain ⟨vm0, k0, locs, X, eT, hS, hk, hn, hZ, ho, hE, hC, hF, hO, hxs, hx, hby, rest⟩ := W
  obtain ⟨d, rfl⟩ := d
  exact Go.st (fun t st => X.ldcInt hx ho (mv hZ w) (g := mkF m pc L r) rfl (hb hby d) t st) k
theorem Go.ldc2J (W : Wk nw EL n0 Z a0 own nm cd ml ret p l e R s m args below meth c T h xs cells slots) {ix : Nat} {v : Int64} (d : Dec cd pc (.ldc2_w ix) 3 n) (w : (Cond.constantLong own ix v).before a0 Z = true)
    (k : Go p e below F T (mkF m n L (.long v :: r))) : Go p e below F T (mkF m pc L r) := by
  obtain ⟨vm0, k0, locs, X, eT, hS, hk, hn, hZ, ho, hE, hC, hF, hO, hxs, hx, hby, rest⟩ := W
  obtain ⟨d, rfl⟩ := d
  exact Go.st (fun t st => X.ldc2Long hx ho (mv hZ w) (g := mkF m pc L r) rfl (hb hby d) t st) k
/-! the ends -/
theorem Go.fin (W : Wk nw EL n0 Z a0 own nm cd ml ret p l e R s m args below meth c T h xs cells slots) {kc ks : Nat} {Q : Option Value → Heap → Prop} {v : Option Value} {g : JFrame} (hc : cells ≤ kc) (hs : slots ≤ ks) (hQ : Q v h) (hv : ret = none → v = none)
    (st : ∀ vm0 locs fs, Stand p l e R (s.setVm vm0) m args below meth c T locs cells slots → p.tables.exec = Jvm.exec → c.code = cd → meth.sig.returnType = ret → (∀ (f : JFrame) (acts : List Action), f.method = m → f.locked = none → f.entered = [] → (doReturn e (T.setTop f) acts v).1 = T.setFrames fs) → Steps p.tables e below (T.setTop g) (T.setFrames fs)) :
    Go p e below (Endp nw EL n0 Z below s kc ks Q) T g := by
  obtain ⟨vm0, k0, locs, X, eT, hS, hk, hn, hZ, ho, hE, hC, hF, hO, hxs, hx, hby, hml, hrt, hlk, hnm⟩ := W
  obtain ⟨fs, hr, hrun, hended, r1, r2, r3, r4⟩ := X.leaveW hS (by rw [eT]; exact hk) (v := v) (fun q => hv (hrt ▸ q)) hlk
  have eh : (T.setFrames fs).heap = h := eT
  refine ⟨T.setFrames fs, st vm0 locs fs X hx hby hrt hr, hrun, v, locs, hended, by rw [eh]; exact hQ, hF, by rw [eh]; exact hO, ?_, ⟨r1, r2, r3, r4.mono hc hs⟩, fun q => ?_⟩
  · show CHr Z EL s.vm s.heap T.vm T.heap
    rw [eT]; exact hC.trans (CHv.at X hZ hE hC.1)
  · exact State.WarmedH.trans (t := s.setVm vm0) (hn q) X.warmed
theorem Go.iret (W : Wk nw EL n0 Z a0 own nm cd ml (some t) p l e R s m args below meth c T h xs cells slots) {kc ks : Nat} {Q : Option Value → Heap → Prop} {z : Int32} (d : Dec cd pc .ireturn 1 n) (ht : t = .int ∨ t = .boolean ∨ t = .byte ∨ t = .char ∨ t = .short) (hn : narrow t (.int z) = .int z) (hc : cells ≤ kc) (hs : slots ≤ ks) (hQ : Q (some (.int z)) h) :
    Go p e below (Endp nw EL n0 Z below s kc ks Q) T (mkF m pc L (.int z :: r)) :=
  Go.fin W hc hs hQ (fun q => nomatch q) (fun vm0 locs fs X hx hby hrt hr => retOut X hx hrt hn (Or.inl ⟨rfl, ht, z, rfl⟩) (hb hby d.1) hr)
theorem Go.aret (W : Wk nw EL n0 Z a0 own nm cd ml (some t) p l e R s m args below meth c T h xs cells slots) {kc ks : Nat} {Q : Option Value → Heap → Prop} {v : Value} (d : Dec cd pc .areturn 1 n) (ht : t.isReference = true) (hv : v.isRef = true) (hn : narrow t v = v) (hc : cells ≤ kc) (hs : slots ≤ ks) (hQ : Q (some v) h) :
    Go p e below (Endp nw EL n0 Z below s kc ks Q) T (mkF m pc L (v :: r)) :=
  Go.fin W hc hs hQ (fun q => nomatch q) (fun vm0 locs fs X hx hby hrt hr => retOut X hx hrt hn (Or.inr (Or.inr (Or.inr (Or.inr ⟨rfl, ht, hv⟩)))) (hb hby d.1) hr)
theorem Go.vret (W : Wk nw EL n0 Z a0 own nm cd ml none p l e R s m args below meth c T h xs cells slots) {kc ks : Nat} {Q : Option Value → Heap → Prop} (d : Dec cd pc .return_ 1 n) (hc : cells ≤ kc) (hs : slots ≤ ks) (hQ : Q none h) :
    Go p e below (Endp nw EL n0 Z below s kc ks Q) T (mkF m pc L []) :=
  Go.fin W hc hs hQ (fun _ => rfl) (fun vm0 locs fs X hx hby hrt hr => X.returnOut hx hrt (hb hby d.1) hr)
/-! contracts -/
theorem Ctr.body {y : MethodName} {bytes : ByteArray} {maxL : Nat} {rm : Room} {as' : Array Value} {Q : Option Value → Heap → Prop} {L0 : Array Slot} (hpn : plainFor y = true) (hE : EW Z a0 EL) (hO : Old Z n0 h) (hxs : ∀ x ∈ xs, n0 ≤ x ∧ x < h.size) (ef : ∀ m, entryFrame m as' maxL = mkF m 0 L0 [])
    (hB : ∀ p e s m below meth c T, Wk nw EL n0 Z a0 y.cls y.name bytes maxL ret p l e rm s m as' below meth c T h xs 0 0 → Go p e below (Endp nw EL n0 Z below s rm.cells rm.slots Q) T (mkF m 0 L0 [])) :
    Ctr nw EL n0 Z xs l y bytes maxL ret rm as' h Q := by
  intro ws
  refine MetFree.of_bodySF hpn hisR ?_
  intro p e s m args below meth c s₁ Bd hml hP hK
  obtain ⟨rfl, hh, hZ, hCH, hS⟩ := hP
  have X0 : Stand p l e rm s m args below meth c s₁ [] 0 0 := Stand.of_body Bd
  have e0 : s₁.heap = h := by rw [← hh, Bd.state]; rfl
  have W : Wk nw EL n0 Z a0 y.cls y.name bytes maxL ret p l e rm s m args below meth c s₁ h xs 0 0 :=
    ⟨s.vm, 0, [], X0, e0, (State.WarmedH.refl s).since 0, Nat.zero_le _, fun _ => State.WarmedH.refl s, hZ, findClass_of_methodNamed Bd.named, hE, by rw [hh]; exact CHr.refl hCH, Fr.nil n0, hO, fun x hm => ⟨(hxs x hm).1, (hxs x hm).2, hS x hm⟩, Bd.exec, Bd.bytes, hml, Bd.returns, Bd.notSynchronized, (name_of_methodNamed Bd.named Bd.method).1⟩
  obtain ⟨t, st, hrun, v, Lc, hend, q1, q2, q3, q4, q5, q6⟩ := hB p e s m below meth c s₁ W
  exact ⟨t, .returned v, castTop (ef m) st, hrun, hend, v, Lc, rfl, q1, q2, q3, q4, q5, q6⟩
theorem Ctr.call {y : MethodName} {bytes : ByteArray} {maxL : Nat} {rt : Option FieldType} {rm : Room} {as' : Array Value} {Q : Option Value → Heap → Prop} {xs' : List Addr} {wt len : Nat} (hM : Ctr nw EL n0 Z xs' l y bytes maxL rt rm as' h Q) (hE : EW Z a0 EL) (wc : (Cond.code y bytes maxL rt).before a0 Z = true) (wz : (Cond.initialized y.cls).before a0 Z = true)
    (hxs : ∀ x ∈ xs', x ∈ xs) (hf : rm.frames + 1 ≤ R.frames) (hl : wt + (maxL + 11) + rm.locals ≤ R.locals) : Call nw EL n0 Z xs l R p e below s args y len wt as' h rm.cells rm.slots Q := by
  intro vm0 hZ hCH hO hX
  refine BackS.of_freeW (bytes := bytes) (maxL := maxL) (ret := rt) (E := fun _ first o t Lc k n => k = rm.cells ∧ n = rm.slots ∧ (∃ v, o = .returned v ∧ Q v t.heap) ∧ Fr n0 Lc ∧ Old Z n0 t.heap ∧ CHr Z EL first.vm first.heap t.vm t.heap ∧ (nw → first.WarmedH t.vm)) (hM []) hf hl ?_ ?_ (fun _ _ _ _ _ _ _ _ _ => trivial) ?_ ?_
  · intro m meth c A a Y hp
    have hU : Z.Warmed39 A.U.vm := wtrans (s := s.setVm vm0) hZ Y.warmed
    exact ⟨by show (Cond.and _ .tt).before a A.U = true; rw [Cond.before_and, mv hU wc]; rfl, mv hU wc, mv hU wz, hp.2.2.1, hp.2.2.2⟩
  · intro m meth c A a g mk Y hp
    have K := CHv.at Y hZ hE hCH
    exact ⟨hp.1, hp.2.1, wtrans (s := s.setVm vm0) hZ Y.warmed, K.1, fun x hm => K.safe (hX x (hxs x hm)).2.1 (hX x (hxs x hm)).2.2⟩
  · rintro a first o t ⟨v, Lc, h1, h2, h3, h4, h5, h6, h7⟩
    exact ⟨Lc, _, _, h6, rfl, rfl, ⟨v, h1, h2⟩, h3, h4, h5, h7⟩
  · rintro m meth c A a g mk v t Lc k n Y hp hq hR ⟨e1, e2, ⟨v', e3, e4⟩, e5, e6, e7, e8⟩
    cases e3; subst e1 e2
    refine ⟨Lc, e4, rfl, rfl, rfl, e5, e6, (CHv.at Y hZ hE hCH).trans ?_, fun q => ?_⟩
    · rw [← hp.2.1]; exact e7
    · exact State.WarmedH.trans (t := (A.U.calling g mk a)) Y.warmed (e8 q)
theorem Call.of_back {y : MethodName} {as' : Array Value} {Q : Option Value → Heap → Prop} {Qb : Option Value → Heap → List Loc → Prop} {len wt kc ks : Nat} (hE : EW Z a0 EL)
    (hB : ∀ vm0, Z.Warmed39 vm0 → Old Z n0 h → Back l R p e below (s.setVm vm0) args y len wt (fun A a => a = as' ∧ A.U.heap = h ∧ A.cells + kc ≤ R.cells ∧ A.slots + ks ≤ R.slots) (fun A _ v B => ∃ Lc, Qb v B.U.heap Lc ∧ B.locs = A.locs ++ Lc ∧ B.cells = A.cells + kc ∧ B.slots = A.slots + ks))
    (hQ : ∀ v h' Lc, Old Z n0 h → Qb v h' Lc → Q v h' ∧ Fr n0 Lc ∧ ∃ ws, Keep h h' ws ∧ ∀ x ∈ ws, x ∈ xs) : Call nw EL n0 Z xs l R p e below s args y len wt as' h kc ks Q := by
  intro vm0 hZ hCH hO hX m meth c A g ig mk a X hg hsize hdg hW hn hp
  obtain ⟨v, B, X', ⟨Lc, q, r1, r2, r3⟩, st⟩ := hB vm0 hZ hO m meth c A g ig mk a X hg hsize hdg hW hn hp
  obtain ⟨hq, hF, ws, K, hws⟩ := hQ v _ Lc hO q
  have C1 : CHr Z EL vm0 h vm0 B.U.heap := CHr.keep K (fun x hm => (hX x (hws x hm)).2.2) hCH
  exact ⟨v, B, X'.retabled X'.warmed.wide, X'.warmed.since _, by rw [hp.2.1]; exact K.1, ⟨Lc, hq, r1, r2, r3, hF, hO.keep K (fun x hm => (hX x (hws x hm)).1), C1.trans (CHv.at X' hZ hE C1.1), fun _ => X'.warmed⟩, st⟩
theorem Call.mono {y : MethodName} {as' : Array Value} {Q : Option Value → Heap → Prop} {len wt kc ks kc' ks' : Nat} (hK : Call nw EL n0 Z xs l R p e below s args y len wt as' h kc ks Q) (h1 : kc ≤ kc') (h2 : ks ≤ ks') : Call nw EL n0 Z xs l R p e below s args y len wt as' h kc' ks' Q := by
  intro vm0 hZ hCH hO hX m meth c A g ig mk a X hg hsize hdg hW hn hp
  obtain ⟨v, B, X', hS, hg', ⟨Lc, q, r1, r2, r3, rest⟩, st⟩ := hK vm0 hZ hCH hO hX m meth c A g ig mk a X hg hsize hdg hW hn ⟨hp.1, hp.2.1, Nat.le_trans (Nat.add_le_add_left h1 _) hp.2.2.1, Nat.le_trans (Nat.add_le_add_left h2 _) hp.2.2.2⟩
  exact ⟨v, ⟨B.U, B.locs, A.cells + kc', A.slots + ks'⟩, ⟨X'.admits, X'.cas, X'.clock, X'.frames, X'.room, X'.hears, X'.method, X'.code, X'.here, X'.tail, X'.warmed, X'.limits, X'.bytes, X'.same.mono (by rw [r2]; exact Nat.add_le_add_left h1 _) (by rw [r3]; exact Nat.add_le_add_left h2 _)⟩, hS, hg', ⟨Lc, q, r1, rfl, rfl, rest⟩, st⟩
theorem Call.weaken {y : MethodName} {as' : Array Value} {Q Q' : Option Value → Heap → Prop} {len wt kc ks : Nat} (hK : Call nw EL n0 Z xs l R p e below s args y len wt as' h kc ks Q) (hq : ∀ v h', Q v h' → Q' v h') : Call nw EL n0 Z xs l R p e below s args y len wt as' h kc ks Q' := by
  intro vm0 hZ hCH hO hX m meth c A g ig mk a X hg hsize hdg hW hn hp
  obtain ⟨v, B, X', hS, hg', ⟨Lc, q, rest⟩, st⟩ := hK vm0 hZ hCH hO hX m meth c A g ig mk a X hg hsize hdg hW hn hp
  exact ⟨v, B, X', hS, hg', ⟨Lc, hq _ _ q, rest⟩, st⟩
theorem Wk.after {vm0 k0 locs} (X : Stand p l e R (s.setVm vm0) m args below meth c T locs cells slots) (eT : T.heap = h) (hS : s.Since vm0 k0) (hk : k0 ≤ h.size) (hn : nw → s.WarmedH vm0) (hZ : Z.Warmed39 vm0) (ho : vm0.findClass own = some m.cls) (hE : EW Z a0 EL) (hC : CHr Z EL s.vm s.heap vm0 h) (hF : Fr n0 locs) (hO : Old Z n0 h) (hxs : ∀ x ∈ xs, n0 ≤ x ∧ x < h.size ∧ Safe Z EL vm0 h x)
    (rest : p.tables.exec = Jvm.exec ∧ c.code = cd ∧ c.maxLocals = ml ∧ meth.sig.returnType = ret ∧ meth.locks = false ∧ meth.name = nm) {B : Pt} {kc ks : Nat} {Lc : List Loc} (X' : Stand p l e R ((s.setVm vm0).setVm B.U.vm) m args below meth c B.U B.locs B.cells B.slots) (hS2 : (s.setVm vm0).Since B.U.vm B.U.heap.size) (hg : T.heap.size ≤ B.U.heap.size)
    (r1 : B.locs = locs ++ Lc) (r2 : B.cells = cells + kc) (r3 : B.slots = slots + ks) (hF' : Fr n0 Lc) (hO' : Old Z n0 B.U.heap) (hC' : CHr Z EL vm0 h B.U.vm B.U.heap) (hn' : nw → (s.setVm vm0).WarmedH B.U.vm) :
    Wk nw EL n0 Z a0 own nm cd ml ret p l e R s m args below meth c B.U B.U.heap xs (cells + kc) (slots + ks) := by
  rw [r1, r2, r3] at X'
  exact ⟨B.U.vm, B.U.heap.size, _, X', rfl, hS.trans hS2 (Nat.le_trans hk (eT ▸ hg)), Nat.le_refl _, fun q => State.WarmedH.trans (t := s.setVm vm0) (hn q) (hn' q), State.Warmed39.trans (t := s.setVm vm0) hZ hS2.1, (hS2.1.alike.findClass _ _).trans ho, hE, hC.trans hC', hF.app hF', hO', fun x hm => ⟨(hxs x hm).1, Nat.lt_of_lt_of_le (hxs x hm).2.1 (eT ▸ hg), hC'.safe (hxs x hm).2.1 (hxs x hm).2.2⟩, rest⟩
/-- invokestatic by a contract -/
theorem Go.invs (W : Wk nw EL n0 Z a0 own nm cd ml ret p l e R s m args below meth c T h xs cells slots) {y : MethodName} {bytes : ByteArray} {maxL ix wt kc ks cells' slots' : Nat} {rt : Option FieldType} {argsL rest st0 : List Value} {Q : Option Value → Heap → Prop} {ps : List FieldType} {pr : Option FieldType} (hK : Call nw EL n0 Z xs l R p e below s args y 3 wt argsL.toArray h kc ks Q) (d : Dec cd pc (.invokestatic ix) 3 n)
    (w1 : (Cond.methodLink own ix y).before a0 Z = true) (w2 : (Cond.static y).before a0 Z = true) (w3 : (Cond.initialized y.cls).before a0 Z = true) (w4 : (Cond.code y bytes maxL rt).before a0 Z = true) (hy : y.cls ≠ "java/lang/invoke/MethodHandle" ∧ y.cls ≠ "java/lang/invoke/VarHandle")
    (hpd : parseMethodDescriptor y.desc = some ⟨ps, pr⟩) (hlen : argsL.length = ps.length) (hsz : L.size = ml) (hst : st0 = argsL.reverse ++ rest) (hw : (rest.map fun v => v.category).sum ≤ wt) (hc : cells + kc = cells') (hs : slots + ks = slots') (hc' : cells' ≤ R.cells) (hs' : slots' ≤ R.slots)
    (k : ∀ T' h' v, Wk nw EL n0 Z a0 own nm cd ml ret p l e R s m args below meth c T' h' xs cells' slots' → h.size ≤ h'.size → Q v h' → Go p e below F T' (mkF m n L (v.toList ++ rest))) : Go p e below F T (mkF m pc L st0) := by
  obtain ⟨vm0, k0, locs, X, eT, hS, hk, hn, hZ, ho, hE, hC, hF, hO, hxs, hx, hby, hml, rst⟩ := W
  obtain ⟨d, rfl⟩ := d
  subst hc hs hst
  obtain ⟨v, vm₁, B, hW1, X', hS2, hg, ⟨Lc, hq, r1, r2, r3, hF', hO', hC', hn'⟩, st⟩ := callSS X hx ho (mv hZ w1) (mv hZ w2) (mv hZ w3) (mv hZ w4) hy (hK vm0 hZ hC.1 hO hxs) (g := mkF m pc L (argsL.reverse ++ rest)) rfl (hsz.trans hml.symm) (argsL := argsL) (rest := rest) (lenOf hpd hlen) rfl (by show 2 * 0 + _ ≤ _; omega) (hb hby d) (fun _ _ => ⟨rfl, eT, hc', hs'⟩)
  exact Go.run st (k B.U B.U.heap v (Wk.after X eT hS hk hn hZ ho hE hC hF hO hxs ⟨hx, hby, hml, rst⟩ X' hS2 hg r1 r2 r3 hF' hO' hC' hn') (eT ▸ hg) hq)
/-- a constructor by a contract -/
theorem Go.invi (W : Wk nw EL n0 Z a0 own nm cd ml ret p l e R s m args below meth c T h xs cells slots) {y : MethodName} {bytes : ByteArray} {maxL ix wt kc ks cells' slots' : Nat} {argsL rest st0 : List Value} {b : Addr} {Q : Heap → Prop} {ps : List FieldType} {pr : Option FieldType} (hK : Call nw EL n0 Z xs l R p e below s args y 3 wt (.ref b :: argsL).toArray h kc ks (RN Q)) (d : Dec cd pc (.invokespecial ix) 3 n)
    (hy1 : y.name = "<init>") (w1 : (Cond.methodLink own ix y).before a0 Z = true) (w2 : (Cond.instanceMethod y).before a0 Z = true) (w4 : (Cond.code y bytes maxL none).before a0 Z = true) (hy : y.cls ≠ "java/lang/invoke/MethodHandle" ∧ y.cls ≠ "java/lang/invoke/VarHandle")
    (hpd : parseMethodDescriptor y.desc = some ⟨ps, pr⟩) (hlen : argsL.length = ps.length) (hsz : L.size = ml) (hst : st0 = argsL.reverse ++ .ref b :: rest) (hw : (rest.map fun v => v.category).sum ≤ wt) (hc : cells + kc = cells') (hs : slots + ks = slots') (hc' : cells' ≤ R.cells) (hs' : slots' ≤ R.slots)
    (k : ∀ T' h', Wk nw EL n0 Z a0 own nm cd ml ret p l e R s m args below meth c T' h' xs cells' slots' → h.size ≤ h'.size → Q h' → Go p e below F T' (mkF m n L rest)) : Go p e below F T (mkF m pc L st0) := by
  obtain ⟨vm0, k0, locs, X, eT, hS, hk, hn, hZ, ho, hE, hC, hF, hO, hxs, hx, hby, hml, rst⟩ := W
  obtain ⟨d, rfl⟩ := d
  subst hc hs hst
  obtain ⟨v, vm₁, B, hW1, X', hS2, hg, ⟨Lc, hq, r1, r2, r3, hF', hO', hC', hn'⟩, st⟩ := X.specialBackS hx hy1 ho (mv hZ w1) (mv hZ w2) (mv hZ w4) hy (hK vm0 hZ hC.1 hO hxs) (g := mkF m pc L (argsL.reverse ++ .ref b :: rest)) rfl (hsz.trans hml.symm) (Steps.refl _) (a := b) (argsL := argsL) (rest := rest) (lenOf hpd hlen) rfl (by show 2 * 0 + _ ≤ _; omega) (hb hby d) (fun _ _ => ⟨rfl, eT, hc', hs'⟩)
  obtain ⟨rfl, hq⟩ := hq
  exact Go.run st (k B.U B.U.heap (Wk.after X eT hS hk hn hZ ho hE hC hF hO hxs ⟨hx, hby, hml, rst⟩ X' hS2 hg r1 r2 r3 hF' hO' hC' hn') (eT ▸ hg) hq)
/-- invokevirtual by a contract -/
theorem Go.invv (W : Wk nw EL n0 Z a0 own nm cd ml ret p l e R s m args below meth c T h xs cells slots) {y z : MethodName} {C : String} {ix wt kc ks cells' slots' : Nat} {argsL rest st0 : List Value} {b : Addr} {Q : Option Value → Heap → Prop} {ps : List FieldType} {pr : Option FieldType} (hK : Call nw EL n0 Z xs l R p e below s args z 3 wt (.ref b :: argsL).toArray h kc ks Q) (d : Dec cd pc (.invokevirtual ix) 3 n)
    (w1 : (Cond.methodLink own ix y).before a0 Z = true) (w2 : (Cond.declares y).before a0 Z = true) (w3 : (Cond.selects C y z).before a0 Z = true) (w4 : (Cond.instanceMethod z).before a0 Z = true) (hy : y.cls ≠ "java/lang/invoke/MethodHandle" ∧ y.cls ≠ "java/lang/invoke/VarHandle") (E : Exa Z h b C)
    (hpd : parseMethodDescriptor y.desc = some ⟨ps, pr⟩) (hlen : argsL.length = ps.length) (hsz : L.size = ml) (hst : st0 = argsL.reverse ++ .ref b :: rest) (hw : (rest.map fun v => v.category).sum ≤ wt) (hc : cells + kc = cells') (hs : slots + ks = slots') (hc' : cells' ≤ R.cells) (hs' : slots' ≤ R.slots)
    (hnf : ∀ vm0, Z.Warmed39 vm0 → NotFace (s.setVm vm0) y)
    (k : ∀ T' h' v, Wk nw EL n0 Z a0 own nm cd ml ret p l e R s m args below meth c T' h' xs cells' slots' → h.size ≤ h'.size → Q v h' → Go p e below F T' (mkF m n L (v.toList ++ rest))) : Go p e below F T (mkF m pc L st0) := by
  obtain ⟨vm0, k0, locs, X, eT, hS, hk, hn, hZ, ho, hE, hC, hF, hO, hxs, hx, hby, hml, rst⟩ := W
  obtain ⟨d, rfl⟩ := d
  subst hc hs hst
  obtain ⟨cq, kq, qa, qb, qc⟩ := isOf (s := s.setVm vm0) hZ eT E
  obtain ⟨v, vm₁, B, hW1, X', hS2, hg, ⟨Lc, hq, r1, r2, r3, hF', hO', hC', hn'⟩, st⟩ := X.virtualBackS hx ho (mv hZ w1) (mv hZ w2) (hnf vm0 hZ) (mv hZ w3) (mv hZ w4) hy (hK vm0 hZ hC.1 hO hxs) qa qc (g := mkF m pc L (argsL.reverse ++ .ref b :: rest)) rfl (hsz.trans hml.symm) (Steps.refl _) (argsL := argsL) (rest := rest) (lenOf hpd hlen) rfl (by show 2 * 0 + _ ≤ _; omega) (hb hby d) (fun _ _ => ⟨rfl, eT, hc', hs'⟩)
  exact Go.run st (k B.U B.U.heap v (Wk.after X eT hS hk hn hZ ho hE hC hF hO hxs ⟨hx, hby, hml, rst⟩ X' hS2 hg r1 r2 r3 hF' hO' hC' hn') (eT ▸ hg) hq)

theorem Go.invs1 (W : Wk nw EL n0 Z a0 own nm cd ml ret p l e R s m args below meth c T h xs cells slots) {y : MethodName} {bytes : ByteArray} {maxL ix wt kc ks cells' slots' : Nat} {rt : Option FieldType} {argsL rest st0 : List Value} {Q : Value → Heap → Prop} {ps : List FieldType} {pr : Option FieldType} (hK : Call nw EL n0 Z xs l R p e below s args y 3 wt argsL.toArray h kc ks (RV Q)) (d : Dec cd pc (.invokestatic ix) 3 n)
    (w1 : (Cond.methodLink own ix y).before a0 Z = true) (w2 : (Cond.static y).before a0 Z = true) (w3 : (Cond.initialized y.cls).before a0 Z = true) (w4 : (Cond.code y bytes maxL rt).before a0 Z = true) (hy : y.cls ≠ "java/lang/invoke/MethodHandle" ∧ y.cls ≠ "java/lang/invoke/VarHandle")
    (hpd : parseMethodDescriptor y.desc = some ⟨ps, pr⟩) (hlen : argsL.length = ps.length) (hsz : L.size = ml) (hst : st0 = argsL.reverse ++ rest) (hw : (rest.map fun v => v.category).sum ≤ wt) (hc : cells + kc = cells') (hs : slots + ks = slots') (hc' : cells' ≤ R.cells) (hs' : slots' ≤ R.slots)
    (k : ∀ T' h' v, Wk nw EL n0 Z a0 own nm cd ml ret p l e R s m args below meth c T' h' xs cells' slots' → h.size ≤ h'.size → Q v h' → Go p e below F T' (mkF m n L (v :: rest))) : Go p e below F T (mkF m pc L st0) :=
  Go.invs W hK d w1 w2 w3 w4 hy hpd hlen hsz hst hw hc hs hc' hs' (fun T' h' v W' g q => by obtain ⟨w, rfl, q⟩ := q; exact k T' h' w W' g q)
theorem Go.invs0 (W : Wk nw EL n0 Z a0 own nm cd ml ret p l e R s m args below meth c T h xs cells slots) {y : MethodName} {bytes : ByteArray} {maxL ix wt kc ks cells' slots' : Nat} {rt : Option FieldType} {argsL rest st0 : List Value} {Q : Heap → Prop} {ps : List FieldType} {pr : Option FieldType} (hK : Call nw EL n0 Z xs l R p e below s args y 3 wt argsL.toArray h kc ks (RN Q)) (d : Dec cd pc (.invokestatic ix) 3 n)
    (w1 : (Cond.methodLink own ix y).before a0 Z = true) (w2 : (Cond.static y).before a0 Z = true) (w3 : (Cond.initialized y.cls).before a0 Z = true) (w4 : (Cond.code y bytes maxL rt).before a0 Z = true) (hy : y.cls ≠ "java/lang/invoke/MethodHandle" ∧ y.cls ≠ "java/lang/invoke/VarHandle")
    (hpd : parseMethodDescriptor y.desc = some ⟨ps, pr⟩) (hlen : argsL.length = ps.length) (hsz : L.size = ml) (hst : st0 = argsL.reverse ++ rest) (hw : (rest.map fun v => v.category).sum ≤ wt) (hc : cells + kc = cells') (hs : slots + ks = slots') (hc' : cells' ≤ R.cells) (hs' : slots' ≤ R.slots)
    (k : ∀ T' h', Wk nw EL n0 Z a0 own nm cd ml ret p l e R s m args below meth c T' h' xs cells' slots' → h.size ≤ h'.size → Q h' → Go p e below F T' (mkF m n L rest)) : Go p e below F T (mkF m pc L st0) :=
  Go.invs W hK d w1 w2 w3 w4 hy hpd hlen hsz hst hw hc hs hc' hs' (fun T' h' v W' g q => by obtain ⟨rfl, q⟩ := q; exact k T' h' W' g q)
theorem Go.invv1 (W : Wk nw EL n0 Z a0 own nm cd ml ret p l e R s m args below meth c T h xs cells slots) {y : MethodName} {C : String} {ix wt kc ks cells' slots' : Nat} {argsL rest st0 : List Value} {b : Addr} {Q : Value → Heap → Prop} {ps : List FieldType} {pr : Option FieldType} (hK : Call nw EL n0 Z xs l R p e below s args y 3 wt (.ref b :: argsL).toArray h kc ks (RV Q)) (d : Dec cd pc (.invokevirtual ix) 3 n)
    (w1 : (Cond.methodLink own ix y).before a0 Z = true) (w2 : (Cond.declares y).before a0 Z = true) (w3 : (Cond.selects C y y).before a0 Z = true) (w4 : (Cond.instanceMethod y).before a0 Z = true) (hy : y.cls ≠ "java/lang/invoke/MethodHandle" ∧ y.cls ≠ "java/lang/invoke/VarHandle") (E : Exa Z h b C)
    (hpd : parseMethodDescriptor y.desc = some ⟨ps, pr⟩) (hlen : argsL.length = ps.length) (hsz : L.size = ml) (hst : st0 = argsL.reverse ++ .ref b :: rest) (hw : (rest.map fun v => v.category).sum ≤ wt) (hc : cells + kc = cells') (hs : slots + ks = slots') (hc' : cells' ≤ R.cells) (hs' : slots' ≤ R.slots)
    (k : ∀ T' h' v, Wk nw EL n0 Z a0 own nm cd ml ret p l e R s m args below meth c T' h' xs cells' slots' → h.size ≤ h'.size → Q v h' → Go p e below F T' (mkF m n L (v :: rest))) : Go p e below F T (mkF m pc L st0) :=
  Go.invv W hK d w1 w2 w3 w4 hy E hpd hlen hsz hst hw hc hs hc' hs' (fun _ hZ => notFace_of_selects (args := #[]) (mvT hZ w3)) (fun T' h' v W' g q => by obtain ⟨w, rfl, q⟩ := q; exact k T' h' w W' g q)
theorem Go.invv0 (W : Wk nw EL n0 Z a0 own nm cd ml ret p l e R s m args below meth c T h xs cells slots) {y : MethodName} {C : String} {ix wt kc ks cells' slots' : Nat} {argsL rest st0 : List Value} {b : Addr} {Q : Heap → Prop} {ps : List FieldType} {pr : Option FieldType} (hK : Call nw EL n0 Z xs l R p e below s args y 3 wt (.ref b :: argsL).toArray h kc ks (RN Q)) (d : Dec cd pc (.invokevirtual ix) 3 n)
    (w1 : (Cond.methodLink own ix y).before a0 Z = true) (w2 : (Cond.declares y).before a0 Z = true) (w3 : (Cond.selects C y y).before a0 Z = true) (w4 : (Cond.instanceMethod y).before a0 Z = true) (hy : y.cls ≠ "java/lang/invoke/MethodHandle" ∧ y.cls ≠ "java/lang/invoke/VarHandle") (E : Exa Z h b C)
    (hpd : parseMethodDescriptor y.desc = some ⟨ps, pr⟩) (hlen : argsL.length = ps.length) (hsz : L.size = ml) (hst : st0 = argsL.reverse ++ .ref b :: rest) (hw : (rest.map fun v => v.category).sum ≤ wt) (hc : cells + kc = cells') (hs : slots + ks = slots') (hc' : cells' ≤ R.cells) (hs' : slots' ≤ R.slots)
    (k : ∀ T' h', Wk nw EL n0 Z a0 own nm cd ml ret p l e R s m args below meth c T' h' xs cells' slots' → h.size ≤ h'.size → Q h' → Go p e below F T' (mkF m n L rest)) : Go p e below F T (mkF m pc L st0) :=
  Go.invv W hK d w1 w2 w3 w4 hy E hpd hlen hsz hst hw hc hs hc' hs' (fun _ hZ => notFace_of_selects (args := #[]) (mvT hZ w3)) (fun T' h' v W' g q => by obtain ⟨rfl, q⟩ := q; exact k T' h' W' g q)
end Walk
section Strs
variable {Z : State} {h h' : Heap} {a : Addr} {cs : List Int32}
/-- a Latin-1 String and its chars -/
def Str (Z : State) (h : Heap) (a : Addr) (cs : List Int32) : Prop := Exa Z h a "java/lang/String" ∧ Fld Z h a "java/lang/String" "coder" "B" (.int 0) ∧ (∃ (b : Addr) (k : ClassId), Fld Z h a "java/lang/String" "value" "[B" (.ref b) ∧ Arv Z h b k .byte (Int32.ofNat cs.length) ((cs.map fun c => c.toInt8.toInt32).map Value.int) (.int 0)) ∧ (∀ c ∈ cs, ¬ c < 0 ∧ ¬ (255 : Int32) < c) ∧ cs.length ≤ 4000
theorem Str.exa (S : Str Z h a cs) : Exa Z h a "java/lang/String" := S.1
theorem Str.lt (S : Str Z h a cs) : a < h.size := S.1.lt
theorem Str.ext (S : Str Z h a cs) (E : Ext h h') : Str Z h' a cs := by
  obtain ⟨h1, h2, ⟨b, k, h3, h4⟩, r⟩ := S
  exact ⟨h1.ext E, h2.ext E, ⟨b, k, h3.ext E, h4.ext E⟩, r⟩
/-- over the writing of cells made since h0 -/
theorem ext_trans {h0 : Heap} (E : Ext h0 h) (E' : Ext h h') : Ext h0 h' := ⟨Nat.le_trans E.1 E'.1, fun x c q => E'.2 x c (E.2 x c q)⟩
theorem ext_refl (h : Heap) : Ext h h := ⟨Nat.le_refl _, fun _ _ q => q⟩
theorem ext_eq (e : h' = h) : Ext h h' := e ▸ ext_refl h
theorem ext_keep {h0 : Heap} {ws : List Addr} (E : Ext h0 h) (K : Keep h h' ws) (q : ∀ x ∈ ws, h0.size ≤ x) : Ext h0 h' :=
  ⟨Nat.le_trans E.1 K.1, fun x c r => K.2.1 x c (E.2 x c r) fun z => absurd (Array.getElem?_eq_some_iff.mp r).1 (Nat.not_lt.mpr (q x z))⟩
theorem keep_ext (E : Ext h h') : Keep h h' [] := (Keep.refl h []).ext E
/-- a String just made, not yet built -/
def NewS (Z : State) (h : Heap) (a : Addr) : Prop := Exa Z h a "java/lang/String" ∧ Fld Z h a "java/lang/String" "value" "[B" .null ∧ Fld Z h a "java/lang/String" "coder" "B" (.int 0)
theorem NewS.ext (S : NewS Z h a) (E : Ext h h') : NewS Z h' a := ⟨S.1.ext E, S.2.1.ext E, S.2.2.ext E⟩
theorem NewS.keep {ws : List Addr} (S : NewS Z h a) (K : Keep h h' ws) (q : a ∉ ws) : NewS Z h' a := ⟨S.1.keep K, S.2.1.keep K q, S.2.2.keep K q⟩
theorem nar_ok (x : Int32) : nar .char (x &&& 255) = x &&& 255 := i2c_mask x
theorem b255 (x : Int32) : ¬ (x &&& 255) < 0 ∧ ¬ (255 : Int32) < (x &&& 255) := by
  have t : ∀ k : Fin 256, ¬ (Int32.ofNat k.val) < 0 ∧ ¬ (255 : Int32) < (Int32.ofNat k.val) := by decide +kernel
  have h : (x &&& 255).toBitVec.toNat < 256 := by
    simp only [Int32.toBitVec_and, BitVec.toNat_and]
    exact Nat.lt_succ_of_le Nat.and_le_right
  have e : (x &&& 255) = Int32.ofNat (x &&& 255).toBitVec.toNat := by
    apply Int32.toBitVec_inj.mp
    show _ = BitVec.ofNat 32 _
    rw [BitVec.ofNat_toNat]; simp
  rw [e]
  exact t ⟨_, h⟩
theorem up_chars (cs : List Int32) (h : ∀ c ∈ cs, ¬ c < 0 ∧ ¬ (255 : Int32) < c) : ∀ c ∈ cs, ¬ c < 0 ∧ ¬ (65535 : Int32) < c := fun c hc => ⟨(h c hc).1, fun q => (h c hc).2 (by rw [Int32.lt_iff_toInt_lt] at q ⊢; have e1 : (65535 : Int32).toInt = 65535 := rfl; have e2 : (255 : Int32).toInt = 255 := rfl; omega)⟩
theorem all_nil {P : Int32 → Prop} : ∀ c ∈ ([] : List Int32), P c := fun _ q => nomatch q
theorem all_cons {P : Int32 → Prop} {x : Int32} {xs : List Int32} (h : P x) (r : ∀ c ∈ xs, P c) : ∀ c ∈ x :: xs, P c := fun c q => (List.mem_cons.mp q).elim (fun u => u ▸ h) (r c)
end Strs
section Ldc
variable {nw : Prop} {EL : List (String × Nat)} {n0 : Nat} {Z : State} {a0 : Array Value} {own nm : String} {cd : ByteArray} {ml : Nat} {ret : Option FieldType} {p : Program} {l : Launch} {e : Env} {R : Room} {s : State} {m : MethodId} {args : Array Value} {below : List Frame} {meth : Method} {c : Code} {T : State} {h : Heap} {xs : List Addr} {cells slots : Nat}
variable {F : State → Prop} {pc n : Nat} {L : Array Slot} {r : List Value}
/-- ldc of a String constant whose text is read -/
theorem Go.ldcS (W : Wk nw EL n0 Z a0 own nm cd ml ret p l e R s m args below meth c T h xs cells slots) {text : String} {ix nn cells' slots' : Nat} {cs : List Int32} (hnw : ¬ nw) (d : Dec cd pc (.ldc ix) 2 n) (w : (Cond.stringLink own ix text).before a0 Z = true) (wS : ∀ a ∈ Bundle.stringAtoms, a.before a0 Z = true) (hmem : (own, ix) ∈ EL)
    (ht : (∀ c ∈ text.toList, c.toNat < 256) ∧ text.toList.map (fun c => Value.int (Jvm.Lit.byteI c.toNat.toUInt16)) = ((cs.map fun c => c.toInt8.toInt32).map Value.int)) (hp : ∀ c ∈ cs, ¬ c < 0 ∧ ¬ (255 : Int32) < c) (hl4 : cs.length ≤ 4000) (hnn : 4 * text.toList.length ≤ nn) (hbig : nn ≤ 536870912) (hc : cells + 2 = cells') (hs : slots + (nn + 4) = slots') (hc' : cells' ≤ R.cells) (hs' : slots' ≤ R.slots)
    (k : ∀ T' h' a b kb, Wk nw EL n0 Z a0 own nm cd ml ret p l e R s m args below meth c T' h' xs cells' slots' → Ext h h' → Exa Z h' a "java/lang/String" → Fld Z h' a "java/lang/String" "coder" "B" (.int 0) → Fld Z h' a "java/lang/String" "value" "[B" (.ref b) → Arv Z h' b kb .byte (Int32.ofNat cs.length) ((cs.map fun c => c.toInt8.toInt32).map Value.int) (.int 0) → (∀ x ∈ xs, x ≠ a ∧ x ≠ b) → Str Z h' a cs → Go p e below F T' (mkF m n L (.ref a :: r))) : Go p e below F T (mkF m pc L r) := by
  obtain ⟨vm0, k0, locs, X, eT, hS, hk, hn, hZ, ho, hE, hC, hF, hO, hxs, hx, hby, rest⟩ := W
  obtain ⟨d, rfl⟩ := d
  subst hc hs
  have hz := in_of (i := 0) (k := cs.length + 1) rfl (by omega) (by omega)
  have hl : (Int32.ofNat cs.length).toNatClampNeg = ((cs.map fun c => c.toInt8.toInt32).map Value.int).length := by rw [clamp_nat (by omega)]; simp
  obtain ⟨a, T', h', k1, b, kb, X', e', E, hS', hk', hZ', ho', A1, A2, A3, A4, -, -, C1, -, hne, st⟩ := ldcCH X hx hZ ho w wS eT hS hk hE hmem hC.1 ht (by rw [Int32.lt_iff_toInt_lt, LawKit.toInt_of (n := Int32.ofNat cs.length) rfl (by omega)]; show ¬ (cs.length : Int) < 0; omega) hl (g := mkF m pc L r) rfl (hb hby d) hnn hbig hc' hs'
  have hX : ∀ x ∈ xs, n0 ≤ x ∧ x < h'.size ∧ Safe Z EL T'.vm h' x := fun x hm => ⟨(hxs x hm).1, Nat.lt_of_lt_of_le (hxs x hm).2.1 E.1, C1.safe (hxs x hm).2.1 (hxs x hm).2.2⟩
  exact Go.st st (k T' h' a b kb ⟨T'.vm, k1, locs, X', e', hS', hk', fun q => absurd q hnw, hZ', ho', hE, hC.trans C1, hF, hO.ext E, hX, hx, hby, rest⟩ E A1 A2 A3 A4 (fun x hm => hne x (hX x hm).2.2) ⟨A1, A2, ⟨b, kb, A3, A4⟩, hp, hl4⟩)
end Ldc
section Num
theorem toInt_nat {a : Nat} (ha : a < 2 ^ 31) : (Int32.ofNat a).toInt = (a : Int) := LawKit.toInt_of rfl ha
theorem lt_nat {a b : Nat} (ha : a < 2 ^ 31) (hb : b < 2 ^ 31) : Int32.ofNat a < Int32.ofNat b ↔ a < b := by
  rw [Int32.lt_iff_toInt_lt, toInt_nat ha, toInt_nat hb]; omega
theorem eq_nat {a b : Nat} (ha : a < 2 ^ 31) (hb : b < 2 ^ 31) : Int32.ofNat a = Int32.ofNat b ↔ a = b := by
  rw [← Int32.toInt_inj, toInt_nat ha, toInt_nat hb]; omega
theorem eq0_nat {a : Nat} (ha : a < 2 ^ 31) : Int32.ofNat a = 0 ↔ a = 0 := eq_nat (b := 0) ha (by decide)
theorem sub1_nat {a : Nat} (h0 : 0 < a) (ha : a < 2 ^ 31) : Int32.ofNat a - 1 = Int32.ofNat (a - 1) := by
  obtain ⟨b, rfl⟩ : ∃ b, a = b + 1 := ⟨a - 1, by omega⟩
  exact LawKit.dec_ofNat b
theorem add1_nat (a : Nat) : Int32.ofNat a + 1 = Int32.ofNat (a + 1) := (LawKit.inc_ofNat a).symm
/-- a nonnegative int is a number -/
theorem nat_of {x : Int32} (h : ¬ x < 0) : ∃ k : Nat, k < 2 ^ 31 ∧ x = Int32.ofNat k ∧ x.toInt = (k : Int) := by
  rw [Int32.lt_iff_toInt_lt] at h
  have e0 : (0 : Int32).toInt = 0 := rfl
  have hi := Int32.toInt_lt x
  refine ⟨x.toInt.toNat, by omega, ?_, by omega⟩
  rw [← Int32.toInt_inj, toInt_nat (by omega)]; omega
theorem and_nat (x m : Int32) {k : Nat} (hm : m = Int32.ofNat k) (hk : k < 2 ^ 31) : ∃ j : Nat, j ≤ k ∧ x &&& m = Int32.ofNat j := by
  subst hm
  refine ⟨(x &&& Int32.ofNat k).toBitVec.toNat, ?_, ?_⟩
  · simp only [Int32.toBitVec_and, BitVec.toNat_and]
    have : (Int32.ofNat k).toBitVec.toNat = k := by show (BitVec.ofNat 32 k).toNat = k; rw [BitVec.toNat_ofNat]; omega
    rw [this]; exact Nat.and_le_right
  · apply Int32.toBitVec_inj.mp
    show _ = BitVec.ofNat 32 _
    rw [BitVec.ofNat_toNat]; simp
theorem rem_nat {x : Int32} {q j : Nat} (hx : x = Int32.ofNat j) (hj : j < 2 ^ 31) (hq : q < 2 ^ 31) (h0 : 0 < q) : x % Int32.ofNat q = Int32.ofNat (j % q) := by
  subst hx
  have := Nat.mod_lt j h0
  rw [← Int32.toInt_inj, Int32.toInt_mod, toInt_nat hj, toInt_nat hq, toInt_nat (by omega), Int.tmod_eq_emod_of_nonneg (by omega)]
  omega
/-- (x & 0x7fffffff) % q -/
theorem mask_rem (x : Int32) {q : Nat} {y : Int32} (hy : y = Int32.ofNat q) (hq : q < 2 ^ 31) (h0 : 0 < q) : ∃ k : Nat, k < q ∧ (x &&& (2147483647 : Int32)) % y = Int32.ofNat k := by
  subst hy
  obtain ⟨j, hj, e⟩ := and_nat x (2147483647 : Int32) (k := 2147483647) rfl (by decide)
  exact ⟨j % q, Nat.mod_lt _ h0, rem_nat e (by omega) hq h0⟩
theorem not_lt_iff {x y : Int32} : ¬ x < y ↔ y ≤ x := Int32.not_lt
end Num
section Addrs
theorem ne_new {x y : Addr} {h : Heap} (l : x < h.size) (g : y = h.size) : x ≠ y := fun e => by subst e; rw [g] at l; exact Nat.lt_irrefl _ l
theorem nin1 {x y : Addr} {h : Heap} (l : x < h.size) (g : y = h.size) : x ∉ [y] := fun q => ne_new l g (List.mem_singleton.mp q)
theorem all1 {P : Addr → Prop} {y : Addr} (q : P y) : ∀ x ∈ [y], P x := fun x z => (List.mem_singleton.mp z) ▸ q
end Addrs
section Chars
theorem ch_cases {x : Int32} (h : ¬ x < 0 ∧ ¬ (255 : Int32) < x) : ∃ k : Nat, k < 256 ∧ x = Int32.ofNat k := by
  obtain ⟨k, hk, e, ei⟩ := nat_of h.1
  refine ⟨k, ?_, e⟩
  have h2 := h.2
  rw [Int32.lt_iff_toInt_lt, ei] at h2
  have : (255 : Int32).toInt = 255 := rfl
  omega
theorem nar_ch {x : Int32} (h : ¬ x < 0 ∧ ¬ (255 : Int32) < x) : nar .char x = x := by
  obtain ⟨k, hk, rfl⟩ := ch_cases h
  exact (by decide +kernel : ∀ k : Fin 256, nar .char (Int32.ofNat k.val) = Int32.ofNat k.val) ⟨k, hk⟩
theorem narrow_ch {x : Int32} (h : ¬ x < 0 ∧ ¬ (255 : Int32) < x) : narrow .char (.int x) = .int x := by
  show Value.int (nar .char x) = _
  rw [nar_ch h]
theorem i2c_ch {x : Int32} (h : ¬ x < 0 ∧ ¬ (255 : Int32) < x) : x.toUInt32.toUInt16.toUInt32.toInt32 = x := nar_ch h
end Chars
section More
variable {nw : Prop} {EL : List (String × Nat)} {n0 : Nat} {Z : State} {a0 : Array Value} {own nm : String} {cd : ByteArray} {ml : Nat} {ret : Option FieldType} {p : Program} {l : Launch} {e : Env} {R : Room} {s : State} {m : MethodId} {args : Array Value} {below : List Frame} {meth : Method} {c : Code} {T : State} {h : Heap} {xs : List Addr} {cells slots : Nat}
variable {F : State → Prop} {pc n : Nat} {L : Array Slot} {r : List Value}
/-- checkcast of an object of the class -/
theorem Go.cast (W : Wk nw EL n0 Z a0 own nm cd ml ret p l e R s m args below meth c T h xs cells slots) {K : String} {ix : Nat} {a : Addr} (d : Dec cd pc (.checkcast ix) 3 n) (w : (Cond.classLink own ix K).before a0 Z = true) (I : Ins Z h a K true)
    (k : ∀ T', Wk nw EL n0 Z a0 own nm cd ml ret p l e R s m args below meth c T' h xs cells slots → Go p e below F T' (mkF m n L (.ref a :: r))) : Go p e below F T (mkF m pc L (.ref a :: r)) := by
  obtain ⟨vm0, k0, locs, X, eT, hS, hk, hn, hZ, ho, hE, hC, hF, hO, hxs, hx, hby, rest⟩ := W
  obtain ⟨d, rfl⟩ := d
  obtain ⟨T', X', e', st⟩ := castY X hx hZ ho w eT I (g := mkF m pc L (.ref a :: r)) rfl rfl (hb hby d)
  exact Go.st st (k T' ⟨vm0, k0, locs, X', e', hS, hk, hn, hZ, ho, hE, hC, hF, hO, hxs, hx, hby, rest⟩)
/-- instanceof: yes -/
theorem Go.instY (W : Wk nw EL n0 Z a0 own nm cd ml ret p l e R s m args below meth c T h xs cells slots) {K : String} {ix : Nat} {a : Addr} (d : Dec cd pc (.instanceof ix) 3 n) (w : (Cond.classLink own ix K).before a0 Z = true) (I : Ins Z h a K true)
    (k : ∀ T', Wk nw EL n0 Z a0 own nm cd ml ret p l e R s m args below meth c T' h xs cells slots → Go p e below F T' (mkF m n L (.int 1 :: r))) : Go p e below F T (mkF m pc L (.ref a :: r)) := by
  obtain ⟨vm0, k0, locs, X, eT, hS, hk, hn, hZ, ho, hE, hC, hF, hO, hxs, hx, hby, rest⟩ := W
  obtain ⟨d, rfl⟩ := d
  obtain ⟨T', X', e', st⟩ := RoadKit.instY X hx hZ ho w eT I (g := mkF m pc L (.ref a :: r)) rfl rfl (hb hby d)
  exact Go.st st (k T' ⟨vm0, k0, locs, X', e', hS, hk, hn, hZ, ho, hE, hC, hF, hO, hxs, hx, hby, rest⟩)
/-- if_acmpne of two references -/
theorem Go.acne (C : Cx p below m c cd T) {x y : Value} {o : Int} {q : Nat} (d : Dec cd pc (.if_acmp .ne o) 3 n) (hx : x.isRef = true) (hy : y.isRef = true) (ho : 0 ≤ (pc : Int) + o) (hp : ((pc : Int) + o).toNat = q)
    (k1 : ¬ x = y → Go p e below F T (mkF m q L r)) (k2 : x = y → Go p e below F T (mkF m n L r)) : Go p e below F T (mkF m pc L (y :: x :: r)) := by
  obtain ⟨d, rfl⟩ := d
  by_cases hc : x = y
  · obtain ⟨t, st, f⟩ := k2 hc; exact ⟨t, XT.acmpNo C.1 C.2.1 rfl (hb C.2.2 d) rfl hx hy (by simp [XT.acmp, hc]) st, f⟩
  · obtain ⟨t, st, f⟩ := k1 hc; exact ⟨t, XT.acmpYes C.1 C.2.1 rfl (pc0 := pc) rfl (hb C.2.2 d) rfl hx hy (by simp [XT.acmp, hc]) ho hp st, f⟩
theorem Go.aceq (C : Cx p below m c cd T) {x y : Value} {o : Int} {q : Nat} (d : Dec cd pc (.if_acmp .eq o) 3 n) (hx : x.isRef = true) (hy : y.isRef = true) (ho : 0 ≤ (pc : Int) + o) (hp : ((pc : Int) + o).toNat = q)
    (k1 : x = y → Go p e below F T (mkF m q L r)) (k2 : ¬ x = y → Go p e below F T (mkF m n L r)) : Go p e below F T (mkF m pc L (y :: x :: r)) := by
  obtain ⟨d, rfl⟩ := d
  by_cases hc : x = y
  · obtain ⟨t, st, f⟩ := k1 hc; exact ⟨t, XT.acmpYes C.1 C.2.1 rfl (pc0 := pc) rfl (hb C.2.2 d) rfl hx hy (by simp [XT.acmp, hc]) ho hp st, f⟩
  · obtain ⟨t, st, f⟩ := k2 hc; exact ⟨t, XT.acmpNo C.1 C.2.1 rfl (hb C.2.2 d) rfl hx hy (by simp [XT.acmp, hc]) st, f⟩
/-- an enum constant: the static, its class, its ordinal -/
theorem ord_of {C f d K : String} {k : Int32} (hx : (Cond.exactly (Term.static C f d) K).value args Z none Z [] = some true) (ho : (Cond.eq (Term.field (Term.static C f d) "java/lang/Enum" "ordinal" "I") (Term.int k)).value args Z none Z [] = some true)
    (h1 : (Cond.initialized C).before args Z = true) (h2 : (Cond.laysStatic C f d).before args Z = true) : ∃ a, Sta Z Z.heap C f d (.ref a) ∧ Exa Z Z.heap a K ∧ Fld Z Z.heap a "java/lang/Enum" "ordinal" "I" (.int k) := by
  obtain ⟨a, ea⟩ := exa_v hx
  obtain ⟨x, y, hx1, hy1, -⟩ := cmp_v (Or.inl ho)
  have hy2 : (Term.int k).eval args Z none [] Z = some (.int k) := rfl
  rw [hy2] at hy1; cases hy1
  have q : Z.fieldOf? a "java/lang/Enum" "ordinal" "I" = some x := (fld_at ea).symm.trans hx1
  have : x = .int k := by
    cases x with
    | int i => rw [gotT (Cond.eq_ints hx1 hy2) ho]
    | _ => simp [Cond.value, hx1, hy2] at ho
  subst this
  exact ⟨a, Sta.start ea (Or.inr ⟨h1, h2⟩), Exa.start ea hx, Fld.start q⟩
theorem ref_cat {v : Value} (h : v = .null ∨ ∃ a, v = .ref a) : v.isRef = true ∧ v.category = 1 := by rcases h with rfl | ⟨a, rfl⟩ <;> exact ⟨rfl, rfl⟩
end More
section Inst
variable {nw : Prop} {EL : List (String × Nat)} {n0 : Nat} {Z : State} {a0 : Array Value} {own nm : String} {cd : ByteArray} {ml : Nat} {ret : Option FieldType} {p : Program} {l : Launch} {e : Env} {R : Room} {s : State} {m : MethodId} {args : Array Value} {below : List Frame} {meth : Method} {c : Code} {T : State} {h : Heap} {xs : List Addr} {cells slots : Nat}
variable {F : State → Prop} {pc n : Nat} {L : Array Slot} {r : List Value}
/-- a class right beneath the root is no subclass of another one -/
theorem no_sub {C O K : String} {kk : Nat} (w1 : (Cond.superclass C O).before a0 Z = true) (w2 : (Cond.noSuperclass O).before a0 Z = true) (wk : (Cond.instantiable K kk).before a0 Z = true) (h1 : C ≠ K) (h2 : O ≠ K) : ∃ c t, Z.vm.findClass C = some c ∧ Z.vm.findClass K = some t ∧ Z.vm.assignable c t = false := by
  obtain ⟨o, ko, o1, o2, o3, -, -⟩ := Cond.noSuperclass_spec w2
  obtain ⟨c, c0⟩ := found_sup w1
  obtain ⟨p, k, kp, p1, p2, p3, p4, p5, -, p7⟩ := Cond.superclass_spec c0 w1
  cases o1.symm.trans p1
  obtain ⟨t, kt, t1, t2, t3, t4, -⟩ := Cond.instantiable_spec wk
  have n1 := ids_ne c0 t1 h1
  have n2 := ids_ne o1 t1 h2
  have t5 : kt.isInterface = false := by cases q : kt.isInterface <;> simp_all
  have sub : ∀ fuel, Z.vm.isSubclassAux fuel c t = false := fun fuel => by
    rcases fuel with _ | _ | f
    · rfl
    · simp [Vm.isSubclassAux, n1, p2, p4]
    · simp [Vm.isSubclassAux, n1, n2, p2, p4, o2, o3]
  refine ⟨c, t, c0, t1, ?_⟩
  show Z.vm.assignableAux (255 + 1) c t = false
  simp [Vm.assignableAux, n1, p2, t2, p5, t3, t5, Vm.isSubclass, sub]
theorem Go.instN (W : Wk nw EL n0 Z a0 own nm cd ml ret p l e R s m args below meth c T h xs cells slots) {K C : String} {ix : Nat} {a : Addr} (d : Dec cd pc (.instanceof ix) 3 n) (w : (Cond.classLink own ix K).before a0 Z = true) (E : Exa Z h a C) (I : ∃ c t, Z.vm.findClass C = some c ∧ Z.vm.findClass K = some t ∧ Z.vm.assignable c t = false)
    (k : ∀ T', Wk nw EL n0 Z a0 own nm cd ml ret p l e R s m args below meth c T' h xs cells slots → Go p e below F T' (mkF m n L (.int 0 :: r))) : Go p e below F T (mkF m pc L (.ref a :: r)) := by
  obtain ⟨vm0, k0, locs, X, eT, hS, hk, hn, hZ, ho, hE, hC, hF, hO, hxs, hx, hby, rest⟩ := W
  obtain ⟨d, rfl⟩ := d
  obtain ⟨T', X', e', st⟩ := RoadKit.instNo X hx hZ ho w eT E I (g := mkF m pc L (.ref a :: r)) rfl rfl (hb hby d)
  exact Go.st st (k T' ⟨vm0, k0, locs, X', e', hS, hk, hn, hZ, ho, hE, hC, hF, hO, hxs, hx, hby, rest⟩)
theorem Go.inst0 (W : Wk nw EL n0 Z a0 own nm cd ml ret p l e R s m args below meth c T h xs cells slots) {ix : Nat} (d : Dec cd pc (.instanceof ix) 3 n)
    (k : Go p e below F T (mkF m n L (.int 0 :: r))) : Go p e below F T (mkF m pc L (.null :: r)) := by
  obtain ⟨vm0, k0, locs, X, eT, hS, hk, hn, hZ, ho, hE, hC, hF, hO, hxs, hx, hby, rest⟩ := W
  obtain ⟨d, rfl⟩ := d
  exact Go.st (fun t st => X.instanceofNull hx (g := mkF m pc L (.null :: r)) rfl rfl (hb hby d) t st) k
end Inst
section Objs
variable {nw : Prop} {EL : List (String × Nat)} {n0 : Nat} {Z : State} {a0 : Array Value} {own nm : String} {cd : ByteArray} {ml : Nat} {ret : Option FieldType} {p : Program} {l : Launch} {e : Env} {R : Room} {s : State} {m : MethodId} {args : Array Value} {below : List Frame} {meth : Method} {c : Code} {T : State} {h h' : Heap} {xs : List Addr} {cells slots : Nat}
variable {F : State → Prop} {pc n : Nat} {L : Array Slot} {r : List Value}
/-- an empty array of references -/
def OArr (Z : State) (h : Heap) (a : Addr) (C ad : String) : Prop := ∃ cl : Cell, Arr Z h a cl (.object C) ∧ Exa Z h a ad ∧ cl.slots.size = 0
theorem OArr.exa {a : Addr} {C ad : String} (O : OArr Z h a C ad) : Exa Z h a ad := by obtain ⟨_, -, E, -⟩ := O; exact E
theorem OArr.lt {a : Addr} {C ad : String} (O : OArr Z h a C ad) : a < h.size := O.exa.lt
theorem OArr.ext {a : Addr} {C ad : String} (O : OArr Z h a C ad) (E : Ext h h') : OArr Z h' a C ad := by obtain ⟨cl, A, X, S⟩ := O; exact ⟨cl, A.ext E, X.ext E, S⟩
theorem OArr.keep {a : Addr} {C ad : String} {ws : List Addr} (O : OArr Z h a C ad) (K : Keep h h' ws) (q : a ∉ ws) : OArr Z h' a C ad := by obtain ⟨cl, A, X, S⟩ := O; exact ⟨cl, ⟨K.2.1 a cl A.1 q, A.2⟩, X.keep K, S⟩
theorem Go.newobjs0 (W : Wk nw EL n0 Z a0 own nm cd ml ret p l e R s m args below meth c T h xs cells slots) {C ad : String} {ix cells' : Nat} (d : Dec cd pc (.anewarray ix) 3 n) (w1 : (Cond.classLink own ix C).before a0 Z = true) (w2 : (Cond.arrayOver (.object C)).before a0 Z = true)
    (hc : cells + 1 = cells') (hc' : cells' ≤ R.cells) (hs' : slots + 0 ≤ R.slots) (had : "[" ++ (FieldType.object C).toString = ad)
    (k : ∀ T' h' a, a = h.size → Wk nw EL n0 Z a0 own nm cd ml ret p l e R s m args below meth c T' h' (a :: xs) cells' slots → Ext h h' → OArr Z h' a C ad → Go p e below F T' (mkF m n L (.ref a :: r))) : Go p e below F T (mkF m pc L (.int 0 :: r)) := by
  obtain ⟨vm0, k0, locs, X, eT, hS, hk, hn, hZ, ho, hE, hC, hF, hO, hxs, hx, hby, rest⟩ := W
  obtain ⟨d, rfl⟩ := d
  subst hc
  obtain ⟨T', h', cA, X', e', E, A, A2, -, st⟩ := newRE X hx hZ ho w1 w2 eT (g := mkF m pc L (.int 0 :: r)) rfl (hb hby d) rfl (by decide) (cap := 0) (by decide) (by decide) hc' hs' had
  have C1 := CHr.ext E hC.1
  refine Go.st st (k T' h' h.size rfl ⟨vm0, k0, locs, X', e', hS, Nat.le_trans hk E.1, hn, hZ, ho, hE, hC.trans C1, hF, hO.ext E, fun x hm => ?_, hx, hby, rest⟩ E ⟨_, A, A2, by rw [sz_new]; rfl⟩)
  rcases List.mem_cons.mp hm with rfl | hm
  · exact ⟨old_le hO, A.lt, Safe.ext E hC.1 (Safe.new (Nat.le_refl _))⟩
  · exact ⟨(hxs x hm).1, Nat.lt_of_lt_of_le (hxs x hm).2.1 E.1, C1.safe (hxs x hm).2.1 (hxs x hm).2.2⟩
theorem Go.clone0 (W : Wk nw EL n0 Z a0 own nm cd ml ret p l e R s m args below meth c T h xs cells slots) {C ad : String} {ix wt cells' : Nat} {b : Addr} (d : Dec cd pc (.invokevirtual ix) 3 n)
    (w1 : (Cond.methodLink own ix ⟨ad, "clone", "()Ljava/lang/Object;"⟩).before a0 Z = true) (w2 : (Cond.sameMethod ad "java/lang/Object" "clone" "()Ljava/lang/Object;").before a0 Z = true) (w3 : (Cond.native ⟨"java/lang/Object", "clone", "()Ljava/lang/Object;"⟩).before a0 Z = true)
    (w4 : (Cond.instanceMethod ⟨"java/lang/Object", "clone", "()Ljava/lang/Object;"⟩).before a0 Z = true) (w5 : (Cond.selects ad ⟨ad, "clone", "()Ljava/lang/Object;"⟩ ⟨"java/lang/Object", "clone", "()Ljava/lang/Object;"⟩).before a0 Z = true) (w6 : (Cond.castable ad "java/lang/Cloneable").before a0 Z = true)
    (O : OArr Z h b C ad) (hsz : L.size = ml) (hf : 1 ≤ R.frames) (hw : (r.map fun v => v.category).sum ≤ wt) (hl : wt + 14 ≤ R.locals) (hc : cells + 1 = cells') (hc' : cells' ≤ R.cells) (hs' : slots + 0 ≤ R.slots)
    (k : ∀ T' h' a, a = h.size → Wk nw EL n0 Z a0 own nm cd ml ret p l e R s m args below meth c T' h' (a :: xs) cells' slots → Ext h h' → OArr Z h' a C ad → Go p e below F T' (mkF m n L (.ref a :: r))) : Go p e below F T (mkF m pc L (.ref b :: r)) := by
  obtain ⟨vm0, k0, locs, X, eT, hS, hk, hn, hZ, ho, hE, hC, hF, hO, hxs, hx, hby, hml, rest⟩ := W
  obtain ⟨d, rfl⟩ := d
  subst hc
  obtain ⟨cl, A, A2, S⟩ := O
  obtain ⟨T', h', X', e', E, B, B2, st⟩ := cloneA X hx hZ ho w1 w2 w3 w4 w5 w6 eT A A2 (fun i v hv => by have := (Array.getElem?_eq_some_iff.mp hv).1; omega) (g := mkF m pc L (.ref b :: r)) rfl (hsz.trans hml.symm) rfl (hb hby d) hf (W := wt) (cap := 0) (by show 2 * 0 + _ ≤ _; omega) hl (by omega) hc' hs'
  have C1 := CHr.ext E hC.1
  refine Go.st st (k T' h' h.size rfl ⟨vm0, k0, locs, X', e', hS, Nat.le_trans hk E.1, hn, hZ, ho, hE, hC.trans C1, hF, hO.ext E, fun x hm => ?_, hx, hby, hml, rest⟩ E ⟨_, B, B2, by simpa [cloneOf] using S⟩)
  rcases List.mem_cons.mp hm with rfl | hm
  · exact ⟨old_le hO, B.lt, Safe.ext E hC.1 (Safe.new (Nat.le_refl _))⟩
  · exact ⟨(hxs x hm).1, Nat.lt_of_lt_of_le (hxs x hm).2.1 E.1, C1.safe (hxs x hm).2.1 (hxs x hm).2.2⟩
theorem Go.alen0 (W : Wk nw EL n0 Z a0 own nm cd ml ret p l e R s m args below meth c T h xs cells slots) {a : Addr} {C ad : String} (d : Dec cd pc .arraylength 1 n) (O : OArr Z h a C ad)
    (k : Go p e below F T (mkF m n L (.int 0 :: r))) : Go p e below F T (mkF m pc L (.ref a :: r)) := by
  obtain ⟨vm0, k0, locs, X, eT, hS, hk, hn, hZ, ho, hE, hC, hF, hO, hxs, hx, hby, rest⟩ := W
  obtain ⟨d, rfl⟩ := d
  obtain ⟨cl, A, A2, S⟩ := O
  exact Go.st (fun t st => X.arraylength hx (by rw [eT]; exact A.1) (State.isArrayOf_alike hZ.alike A.2.1) (g := mkF m pc L (.ref a :: r)) rfl rfl (hb hby d) t (by rw [S]; exact st)) k
end Objs
section More2
variable {nw : Prop} {EL : List (String × Nat)} {n0 : Nat} {Z : State} {a0 : Array Value} {own nm : String} {cd : ByteArray} {ml : Nat} {ret : Option FieldType} {p : Program} {l : Launch} {e : Env} {R : Room} {s : State} {m : MethodId} {args : Array Value} {below : List Frame} {meth : Method} {c : Code} {T : State} {h h' : Heap} {xs : List Addr} {cells slots : Nat}
variable {F : State → Prop} {pc n : Nat} {L : Array Slot} {r : List Value}
theorem Go.ldcF (W : Wk nw EL n0 Z a0 own nm cd ml ret p l e R s m args below meth c T h xs cells slots) {ix : Nat} {v : UInt32} (d : Dec cd pc (.ldc ix) 2 n) (w : (Cond.constantFloat own ix v).before a0 Z = true)
    (k : Go p e below F T (mkF m n L (.float v :: r))) : Go p e below F T (mkF m pc L r) := by
  obtain ⟨vm0, k0, locs, X, eT, hS, hk, hn, hZ, ho, hE, hC, hF, hO, hxs, hx, hby, rest⟩ := W
  obtain ⟨d, rfl⟩ := d
  exact Go.st (fun t st => X.ldcFloatC hx ho (mv hZ w) (g := mkF m pc L r) rfl (hb hby d) t st) k
/-- invokevirtual of an inherited method, nothing returned -/
theorem Go.invvU0 (W : Wk nw EL n0 Z a0 own nm cd ml ret p l e R s m args below meth c T h xs cells slots) {x y : MethodName} {C owner : String} {ix wt kc ks cells' slots' : Nat} {argsL rest st0 : List Value} {b : Addr} {Q : Heap → Prop} {ps : List FieldType} {pr : Option FieldType} (hK : Call nw EL n0 Z xs l R p e below s args y 3 wt (.ref b :: argsL).toArray h kc ks (RN Q)) (d : Dec cd pc (.invokevirtual ix) 3 n)
    (w1 : (Cond.methodLink own ix x).before a0 Z = true) (w2 : (Cond.sameMethod x.cls owner x.name x.desc).before a0 Z = true) (w3 : (Cond.declares ⟨owner, x.name, x.desc⟩).before a0 Z = true) (how : owner ≠ "java/lang/invoke/MethodHandle" ∧ owner ≠ "java/lang/invoke/VarHandle") (w4 : (Cond.selects C x y).before a0 Z = true) (w5 : (Cond.instanceMethod y).before a0 Z = true) (E : Exa Z h b C)
    (hpd : parseMethodDescriptor x.desc = some ⟨ps, pr⟩) (hlen : argsL.length = ps.length) (hsz : L.size = ml) (hst : st0 = argsL.reverse ++ .ref b :: rest) (hw : (rest.map fun v => v.category).sum ≤ wt) (hc : cells + kc = cells') (hs : slots + ks = slots') (hc' : cells' ≤ R.cells) (hs' : slots' ≤ R.slots)
    (k : ∀ T' h', Wk nw EL n0 Z a0 own nm cd ml ret p l e R s m args below meth c T' h' xs cells' slots' → h.size ≤ h'.size → Q h' → Go p e below F T' (mkF m n L rest)) : Go p e below F T (mkF m pc L st0) := by
  obtain ⟨vm0, k0, locs, X, eT, hS, hk, hn, hZ, ho, hE, hC, hF, hO, hxs, hx, hby, hml, rst⟩ := W
  obtain ⟨d, rfl⟩ := d
  subst hc hs hst
  obtain ⟨cq, kq, qa, qb, qc⟩ := isOf (s := s.setVm vm0) hZ eT E
  obtain ⟨v, vm₁, B, hW1, X', hS2, hg, ⟨Lc, hq, r1, r2, r3, hF', hO', hC', hn'⟩, st⟩ := X.virtualBackUpS hx ho (mv hZ w1) (mv hZ w2) (mv hZ w3) how (mv hZ w4) (mv hZ w5) (hK vm0 hZ hC.1 hO hxs) qa qc (g := mkF m pc L (argsL.reverse ++ .ref b :: rest)) rfl (hsz.trans hml.symm) (Steps.refl _) (argsL := argsL) (rest := rest) (lenOf hpd hlen) rfl (by show 2 * 0 + _ ≤ _; omega) (hb hby d) (fun _ _ => ⟨rfl, eT, hc', hs'⟩)
  obtain ⟨rfl, hq⟩ := hq
  exact Go.run st (k B.U B.U.heap (Wk.after X eT hS hk hn hZ ho hE hC hF hO hxs ⟨hx, hby, hml, rst⟩ X' hS2 hg r1 r2 r3 hF' hO' hC' hn') (eT ▸ hg) hq)
/-- a static that holds a reference -/
theorem sta_ref {C f d : String} {t : FieldType} (hf : Fit Z) (h1 : (Cond.initialized C).before args Z = true) (h2 : (Cond.laysStatic C f d).before args Z = true) (ht : parseFieldDescriptor d = some t) (hr : t.isReference = true) : ∃ v : Value, Sta Z Z.heap C f d v ∧ (v = .null ∨ ∃ r, v = .ref r) := by
  obtain ⟨v, ev, fv⟩ := static_fit hf h2 ht
  exact ⟨v, Sta.start ev (Or.inr ⟨h1, h2⟩), ref_cases (fit_R fv hr)⟩
end More2
section Jdk
variable {nw : Prop} {EL : List (String × Nat)} {n0 : Nat} {Z : State} {a0 : Array Value} {own nm : String} {cd : ByteArray} {ml : Nat} {ret : Option FieldType} {p : Program} {l : Launch} {e : Env} {R : Room} {s : State} {m : MethodId} {args : Array Value} {below : List Frame} {meth : Method} {c : Code} {T : State} {h h' : Heap} {xs : List Addr} {cells slots : Nat}
variable {F : State → Prop} {pc n : Nat} {L : Array Slot} {r : List Value}
/-- the low byte of a char, as a byte[] holds it -/
def by8 (x : Int32) : Int32 := x.toInt8.toInt32
/-- a byte[] that holds chars of 0 to 255 -/
def BArr (Z : State) (h : Heap) (a : Addr) (ka : ClassId) (cs : List Int32) : Prop := Arv Z h a ka .byte (Int32.ofNat cs.length) ((cs.map fun c => c.toInt8.toInt32).map Value.int) (.int 0)
/-- baload -/
theorem Go.baload (W : Wk nw EL n0 Z a0 own nm cd ml ret p l e R s m args below meth c T h xs cells slots) {a : Addr} {ka : ClassId} {cs : List Int32} {j v : Int32} (i : Nat) (d : Dec cd pc .baload 1 n) (A : BArr Z h a ka cs) (hj : j = Int32.ofNat i) (hi : i < cs.length) (hlen : cs.length < 2 ^ 31) (hv : by8 (cs.getD i 0) = v)
    (k : Go p e below F T (mkF m n L (.int v :: r))) : Go p e below F T (mkF m pc L (.int j :: .ref a :: r)) := by
  obtain ⟨vm0, k0, locs, X, eT, hS, hk, hn, hZ, ho, hE, hC, hF, hO, hxs, hx, hby, rest⟩ := W
  obtain ⟨d, rfl⟩ := d
  subst hj
  obtain ⟨cl, A1, q1, S1, M1, H1, U1⟩ := id A
  have hin := inb_of S1 (in_of rfl hi hlen)
  have hat := Has.at (v := .int v) H1 hin (by rw [clamp_nat (by omega)]; unfold by8 at hv; simp only [List.getD_eq_getElem?_getD, List.getElem?_map] at hv ⊢; rw [List.getElem?_eq_getElem hi] at hv ⊢; simpa using hv)
  exact Go.st (fun t st => X.baloadBytes hx (by rw [eT]; exact A1.1) (State.isArrayOf_alike hZ.alike A1.2.1) A1.2.2 hin hat (g := mkF m pc L (.int (Int32.ofNat i) :: .ref a :: r)) rfl rfl (hb hby d) t st) k
theorem by8_inj {x y : Int32} (hx : ¬ x < 0 ∧ ¬ (255 : Int32) < x) (hy : ¬ y < 0 ∧ ¬ (255 : Int32) < y) : by8 x = by8 y ↔ x = y := by
  have t : ∀ k : Fin 256, by8 (Int32.ofNat k.val) &&& 255 = Int32.ofNat k.val := by decide +kernel
  constructor
  · intro q
    obtain ⟨i, hi, rfl⟩ := ch_cases hx
    obtain ⟨j, hj, rfl⟩ := ch_cases hy
    rw [← t ⟨i, hi⟩, ← t ⟨j, hj⟩]
    show by8 (Int32.ofNat i) &&& 255 = by8 (Int32.ofNat j) &&& 255
    rw [q]
  · rintro rfl; rfl
theorem getD_ch {cs : List Int32} (h : ∀ c ∈ cs, ¬ c < 0 ∧ ¬ (255 : Int32) < c) {i : Nat} (hi : i < cs.length) : ¬ cs.getD i 0 < 0 ∧ ¬ (255 : Int32) < cs.getD i 0 := by
  rw [List.getD_eq_getElem?_getD, List.getElem?_eq_getElem hi]
  exact h _ (List.getElem_mem _)
/-- a boolean answer -/
def Bo (P : Prop) (z : Int32) : Prop := (z = 1 ∧ P) ∨ (z = 0 ∧ ¬ P)
theorem Bo.yes {P : Prop} {z : Int32} (B : Bo P z) (q : ¬ z = 0) : P := B.elim (fun u => u.2) (fun u => absurd u.1 q)
theorem Bo.no {P : Prop} {z : Int32} (B : Bo P z) (q : z = 0) : ¬ P := B.elim (fun u => absurd (u.1.symm.trans q) (by decide)) (fun u => u.2)
theorem Bo.tt {P : Prop} (q : P) : Bo P 1 := Or.inl ⟨rfl, q⟩
theorem Bo.ff {P : Prop} (q : ¬ P) : Bo P 0 := Or.inr ⟨rfl, q⟩
theorem Bo.one {P : Prop} {z : Int32} (B : Bo P z) (q : P) : z = 1 := B.elim (fun u => u.1) (fun u => absurd q u.2)
theorem Bo.zero {P : Prop} {z : Int32} (B : Bo P z) (q : ¬ P) : z = 0 := B.elim (fun u => absurd u.2 q) (fun u => u.1)
theorem Bo.iff {P Q : Prop} {z : Int32} (B : Bo P z) (q : P ↔ Q) : Bo Q z := B.elim (fun u => Or.inl ⟨u.1, q.mp u.2⟩) (fun u => Or.inr ⟨u.1, fun w => u.2 (q.mpr w)⟩)
theorem Bo.same {P : Prop} {z z' : Int32} (B : Bo P z) (B' : Bo P z') : z = z' := by
  rcases B with ⟨rfl, q⟩ | ⟨rfl, q⟩
  · exact (B'.one q).symm
  · exact (B'.zero q).symm
theorem Bo.nar {P : Prop} {z : Int32} (B : Bo P z) : narrow .boolean (.int z) = .int z := by
  rcases B with ⟨rfl, -⟩ | ⟨rfl, -⟩ <;> rfl
theorem add_nat (a b : Nat) : Int32.ofNat a + Int32.ofNat b = Int32.ofNat (a + b) := (Int32.ofNat_add a b).symm
theorem sub_int {a b : Nat} (ha : a < 2 ^ 31) (hb : b < 2 ^ 31) : (Int32.ofNat a - Int32.ofNat b).toInt = (a : Int) - b := by
  rw [Int32.toInt_sub, toInt_nat ha, toInt_nat hb]
  exact Int.bmod_eq_of_le (by omega) (by omega)
theorem sub_nat {a b : Nat} (ha : a < 2 ^ 31) (hb : b ≤ a) : Int32.ofNat a - Int32.ofNat b = Int32.ofNat (a - b) := by
  rw [← Int32.toInt_inj, sub_int ha (by omega), toInt_nat (by omega)]; omega
/-- ds stands in cs at k -/
def Sw (cs : List Int32) (k : Nat) (ds : List Int32) : Prop := k + ds.length ≤ cs.length ∧ ∀ i, i < ds.length → cs.getD (k + i) 0 = ds.getD i 0
theorem BArr.of_new {a : Addr} {ka : ClassId} {z : Int32} (A : Arv Z h a ka .byte z [] (.int 0)) {cs : List Int32} {k : Nat} (hc : cs = List.replicate k 0) (hz : z = Int32.ofNat k) : BArr Z h a ka cs := by
  subst hc hz
  unfold BArr
  rw [List.length_replicate, List.map_replicate, List.map_replicate]
  exact Arv.pad A (fun i => by simpa using pad_rep [] (.int 0) k i)
theorem BArr.lt {a : Addr} {ka : ClassId} {cs : List Int32} (A : BArr Z h a ka cs) : a < h.size := Arv.lt A
theorem BArr.ext {a : Addr} {ka : ClassId} {cs : List Int32} (A : BArr Z h a ka cs) (E : Ext h h') : BArr Z h' a ka cs := Arv.ext A E
theorem BArr.keep {a : Addr} {ka : ClassId} {cs : List Int32} {ws : List Addr} (A : BArr Z h a ka cs) (K : Keep h h' ws) (q : a ∉ ws) : BArr Z h' a ka cs := Arv.keep A K q
theorem by8_nar (x : Int32) : nar .byte (x.toInt8.toInt32) = by8 x := by simp [nar, by8]
/-- bastore into a byte[] of the walk's own -/
theorem Go.bastore (W : Wk nw EL n0 Z a0 own nm cd ml ret p l e R s m args below meth c T h xs cells slots) {a : Addr} {ka : ClassId} {cs : List Int32} {j x x' : Int32} (i : Nat) (d : Dec cd pc .bastore 1 n) (A : BArr Z h a ka cs) (ha : a ∈ xs) (hj : j = Int32.ofNat i) (hi : i < cs.length) (hlen : cs.length < 2 ^ 31) (hx' : nar .byte x = by8 x')
    (k : ∀ T' h', Wk nw EL n0 Z a0 own nm cd ml ret p l e R s m args below meth c T' h' xs cells slots → Keep h h' [a] → BArr Z h' a ka (cs.set i x') → Go p e below F T' (mkF m n L r)) : Go p e below F T (mkF m pc L (.int x :: .int j :: .ref a :: r)) := by
  obtain ⟨vm0, k0, locs, X, eT, hS, hk, hn, hZ, ho, hE, hC, hF, hO, hxs, hx, hby, rest⟩ := W
  obtain ⟨d, rfl⟩ := d
  subst hj
  obtain ⟨cl, A1, q1, S1, M1, H1, U1⟩ := id A
  have hin := inb_of S1 (in_of rfl hi hlen)
  obtain ⟨T', h', X', e', Wr', st⟩ := stB X hx hZ eT A1 hin (g := mkF m pc L (.int x :: .int (Int32.ofNat i) :: .ref a :: r)) rfl rfl (hb hby d)
  have q := hxs a ha
  have C1 := CHr.wr Wr' q.2.2 hC.1
  have sz : h'.size = h.size := Wr'.size
  have A2 : BArr Z h' a ka (cs.set i x') := by
    have B := Arv.set A1 q1 S1 M1 H1 U1 (fits_nar_byte x) Wr' i (clamp_nat (by omega)) (by simpa using hi)
    unfold BArr
    rw [List.length_set, List.map_set, List.map_set]
    rw [show x.toInt8.toInt32 = x'.toInt8.toInt32 from hx'] at B
    exact B
  exact Go.st st (k T' h' ⟨vm0, k0, _, X', e', hS, by rw [sz]; exact hk, hn, hZ, ho, hE, hC.trans C1, Fr.snoc X' hF q.1, hO.wr Wr' q.1, fun x hm => ⟨(hxs x hm).1, by rw [sz]; exact (hxs x hm).2.1, C1.safe (hxs x hm).2.1 (hxs x hm).2.2⟩, hx, hby, rest⟩ (Keep.of_wr Wr') A2)
theorem getD_take (cs : List Int32) (n i : Nat) : (cs.take n).getD i 0 = if i < n then cs.getD i 0 else 0 := by
  simp only [List.getD_eq_getElem?_getD, List.getElem?_take]
  split <;> rfl
theorem getD_set (cs : List Int32) (i j : Nat) (x : Int32) (hi : i < cs.length) : (cs.set i x).getD j 0 = if i = j then x else cs.getD j 0 := by
  simp only [List.getD_eq_getElem?_getD, List.getElem?_set]
  by_cases q : i = j
  · subst q; rw [if_pos rfl]; simp [hi]
  · rw [if_neg q]; simp [q]
theorem take_ch {cs : List Int32} (h : ∀ c ∈ cs, ¬ c < 0 ∧ ¬ (255 : Int32) < c) (n : Nat) : ∀ c ∈ cs.take n, ¬ c < 0 ∧ ¬ (255 : Int32) < c := fun c q => h c (List.mem_of_mem_take q)
end Jdk
end Jvm.OwK
/- laws to paste: Road.backV, Road.lenW, Road.chN, Road.codOf (cut by pick.py; bodies as the Statement names them) -/
namespace Jvm.Pilot.@@N@@
namespace StrChars
open Jvm Sem ClassFile Op Lib Jvm.Stand Jvm.Free.XT Jvm.Free.ALB Jvm.Free.JM Jvm.Free
open Jvm.Lib.Cold (StaticIs)
/-- a char array whose places are chars -/
def Ch (a : Addr) (A : Cell) (U : State) : Prop := Arr .char a A U ∧ Typed .char A
theorem Ch.mv {a : Addr} {A : Cell} {U U' : State} (h : Ch a A U) (hal : U.vm.Alike U'.vm) (hh : U'.heap = U.heap) : Ch a A U' := ⟨h.1.mv hal hh, h.2⟩
theorem Ch.keep {a : Addr} {A : Cell} {U U' : State} (h : Ch a A U) (hal : U.vm.Alike U'.vm) (hk : U'.heap[a]? = some A) : Ch a A U' := ⟨h.1.keep hal hk, h.2⟩
/-- what place i of a char[]'s cell holds -/
def cv (A : Cell) (i : Nat) : Int32 := match A.slots[i]? with | some (.int x) => x | _ => 0
theorem Ch.get {a : Addr} {A : Cell} {U : State} (h : Ch a A U) {i : Nat} (hi : i < A.slots.size) : A.slots[i]? = some (.int (cv A i)) := by
  have e := Array.getElem?_eq_getElem hi
  have f := h.2 i _ e
  unfold cv; rw [e]
  generalize A.slots[i] = v at f
  cases v <;> simp [fits] at f ⊢
/-- the byte that i2b leaves of a char -/
def lo8 (x : Int32) : Int32 := x.toInt8.toInt32
theorem fits_lo8 (y : Int32) : fits .byte (.int (lo8 y)) = true := by
  have h1 := y.toInt8.le_toInt
  have h2 := y.toInt8.toInt_lt
  simp only [lo8, fits, Bool.and_eq_true, decide_eq_true_eq, Int32.le_iff_toInt_le, Int8.toInt_toInt32, show (-128 : Int32).toInt = -128 from by decide, show (127 : Int32).toInt = 127 from by decide]
  omega
/-- A' is A but that each place j of lo .. hi - 1 holds f j -/
def Laid (A A' : Cell) (lo hi : Nat) (f : Nat → Value) : Prop := A'.cls = A.cls ∧ A'.vm = A.vm ∧ A'.slots.size = A.slots.size ∧ ∀ i, A'.slots[i]? = if lo ≤ i ∧ i < hi then some (f i) else A.slots[i]?
theorem Laid.zero (A : Cell) (lo : Nat) (f : Nat → Value) : Laid A A lo (lo + 0) f := ⟨rfl, rfl, rfl, fun i => by rw [if_neg (by omega)]⟩
theorem Laid.step {A Ak : Cell} {lo k : Nat} {f : Nat → Value} {v : Value} (h : Laid A Ak lo k f) (hlo : lo ≤ k) (hk : k < Ak.slots.size) (hv : v = f k) : Laid A (Ak.setSlot k v) lo (k + 1) f := by
  refine ⟨h.1, h.2.1, by simpa [Cell.setSlot] using h.2.2.1, fun i => ?_⟩
  by_cases e : k = i
  · subst e; rw [Cell.slots_setSlot_self v hk, if_pos (by omega), hv]
  · rw [Cell.slots_setSlot_ne v e, h.2.2.2 i]
    by_cases q : lo ≤ i ∧ i < k
    · rw [if_pos q, if_pos (by omega)]
    · rw [if_neg q, if_neg (by omega)]
def U16 : String := "java/lang/StringUTF16"
namespace Cmp5
def yN : MethodName := ⟨"java/lang/StringUTF16", "compress", "([CI[BII)I"⟩
abbrev yB : ByteArray := jdk_52_method_21_code
theorem d0 : decode yB 0 = .ok (.iconst 0, 1) := by decide +kernel
theorem d1 : decode yB 1 = .ok (.istore 5, 2) := by decide +kernel
theorem d3 : decode yB 3 = .ok (.iload 5, 2) := by decide +kernel
theorem d5 : decode yB 5 = .ok (.iload 4, 2) := by decide +kernel
theorem d7 : decode yB 7 = .ok (.if_icmp (.ge) 37, 3) := by decide +kernel
theorem d10 : decode yB 10 = .ok (.aload_n 0, 1) := by decide +kernel
theorem d11 : decode yB 11 = .ok (.iload_n 1, 1) := by decide +kernel
theorem d12 : decode yB 12 = .ok (.caload, 1) := by decide +kernel
theorem d13 : decode yB 13 = .ok (.istore 6, 2) := by decide +kernel
theorem d15 : decode yB 15 = .ok (.iload 6, 2) := by decide +kernel
theorem d17 : decode yB 17 = .ok (.sipush 255, 3) := by decide +kernel
theorem d20 : decode yB 20 = .ok (.if_icmp (.le) 6, 3) := by decide +kernel
theorem d26 : decode yB 26 = .ok (.aload_n 2, 1) := by decide +kernel
theorem d27 : decode yB 27 = .ok (.iload_n 3, 1) := by decide +kernel
theorem d28 : decode yB 28 = .ok (.iload 6, 2) := by decide +kernel
theorem d30 : decode yB 30 = .ok (.i2b, 1) := by decide +kernel
theorem d31 : decode yB 31 = .ok (.bastore, 1) := by decide +kernel
theorem d32 : decode yB 32 = .ok (.iinc 1 1, 3) := by decide +kernel
theorem d35 : decode yB 35 = .ok (.iinc 3 1, 3) := by decide +kernel
theorem d38 : decode yB 38 = .ok (.iinc 5 1, 3) := by decide +kernel
theorem d41 : decode yB 41 = .ok (.goto (-38), 3) := by decide +kernel
theorem d44 : decode yB 44 = .ok (.iload 4, 2) := by decide +kernel
theorem d46 : decode yB 46 = .ok (.ireturn, 1) := by decide +kernel
def site : List Cond := []
def tab : Cond := tabOf yN yB 7 (some .int) site
def P (b : Addr) (A : Cell) (d : Addr) (B : Cell) (o q len : Nat) (args : Array Value) (s : State) : Prop := args = #[.ref b, .int (Int32.ofNat o), .ref d, .int (Int32.ofNat q), .int (Int32.ofNat len)] ∧ Ch b A s ∧ Arr .byte d B s ∧ b ≠ d ∧ o + len ≤ A.slots.size ∧ q + len ≤ B.slots.size ∧ ∀ i, i < len → ¬ 255 < cv A (o + i)
def E (b : Addr) (A : Cell) (d : Addr) (B : Cell) (o q len : Nat) (r : Option Value) (s u : State) : Prop := r = some (.int (Int32.ofNat len)) ∧ ∃ B', Put d B' s u ∧ Laid B B' q (q + len) (fun j => Value.int (lo8 (cv A (o + (j - q)))))
/-- no char of the range above 255: len; the places written hold each char's low byte -/
theorem law (l : Launch) (b : Addr) (A : Cell) (d : Addr) (B : Cell) (o q len : Nat) : Law l yN 5 5 0 0 yB 7 (some .int) site (P b A d B o q len) (E b A d B o q len) (copyLocs d q len) 0 0 := by
  refine Law.of_walk (plainFor_of_name (by decide +kernel)) (by decide +kernel) (by decide +kernel) (by decide) (fun _ _ h => by rw [h.1]; rfl) (fun _ U U' hal hh h => ⟨h.1, h.2.1.mv hal hh, h.2.2.1.mv hal hh, h.2.2.2⟩) (fun r U U' V V' h1 hal h2 h => ⟨h.1, h.2.elim fun B' q => ⟨B', q.1.mv h1 h2, q.2⟩⟩) ?_
  intro p e s m args below meth c s₁ X0 hexec hbytes hml hret hlk hnm hown hh0 W hP
  obtain ⟨rfl, hA, hB, hne, l1, l2, hp⟩ := hP
  have c1 : Steps p.tables e below (s₁.setTop (entryFrame m #[.ref b, .int (Int32.ofNat o), .ref d, .int (Int32.ofNat q), .int (Int32.ofNat len)] 7)) (s₁.setTop (mkF m 0 #[.val (.ref b), .val (.int (Int32.ofNat o)), .val (.ref d), .val (.int (Int32.ofNat q)), .val (.int (Int32.ofNat len)), .unset, .unset] [])) := entry rfl
  have hA0 := hA.1.mv X0.warmed.alike hh0
  have hB0 := hB.mv X0.warmed.alike hh0
  have a31 := hA.1.2.2.2
  have c2 : Steps p.tables e below (s₁.setTop (entryFrame m #[.ref b, .int (Int32.ofNat o), .ref d, .int (Int32.ofNat q), .int (Int32.ofNat len)] 7)) (s₁.setTop (mkF m 3 #[.val (.ref b), .val (.int (Int32.ofNat o)), .val (.ref d), .val (.int (Int32.ofNat q)), .val (.int (Int32.ofNat len)), .val (.int 0), .unset] [])) := c1.trans (by
    refine iconstV X0.here hexec rfl 0 (hb hbytes d0) (by decide) ?_
    refine XS.istore X0.here hexec rfl (hb hbytes d1) rfl rfl ?_
    exact Steps.refl _)
  have loop : ∀ (r i : Nat), i + r = len → ∀ (z : Slot), (z = .unset ∨ ∃ w, z = .val w ∧ w.category = 1) → ∀ (Tl : State) (Bk : Cell), Stand p l e { frames := 0, locals := 0, cells := 0, slots := 0 } s m #[.ref b, .int (Int32.ofNat o), .ref d, .int (Int32.ofNat q), .int (Int32.ofNat len)] below meth c Tl ([] ++ copyLocs d q i) 0 0 → Put d Bk s₁ Tl → Laid B Bk q (q + i) (fun j => Value.int (lo8 (cv A (o + (j - q))))) →
      Steps p.tables e below (s₁.setTop (entryFrame m #[.ref b, .int (Int32.ofNat o), .ref d, .int (Int32.ofNat q), .int (Int32.ofNat len)] 7)) (Tl.setTop (mkF m 3 #[.val (.ref b), .val (.int (Int32.ofNat (o + i))), .val (.ref d), .val (.int (Int32.ofNat (q + i))), .val (.int (Int32.ofNat len)), .val (.int (Int32.ofNat i)), z] [])) → ∃ (T' : State) (B' : Cell) (z' : Slot), Stand p l e { frames := 0, locals := 0, cells := 0, slots := 0 } s m #[.ref b, .int (Int32.ofNat o), .ref d, .int (Int32.ofNat q), .int (Int32.ofNat len)] below meth c T' ([] ++ copyLocs d q len) 0 0 ∧ Put d B' s₁ T' ∧ Laid B B' q (q + len) (fun j => Value.int (lo8 (cv A (o + (j - q))))) ∧
      Steps p.tables e below (s₁.setTop (entryFrame m #[.ref b, .int (Int32.ofNat o), .ref d, .int (Int32.ofNat q), .int (Int32.ofNat len)] 7)) (T'.setTop (mkF m 3 #[.val (.ref b), .val (.int (Int32.ofNat (o + len))), .val (.ref d), .val (.int (Int32.ofNat (q + len))), .val (.int (Int32.ofNat len)), .val (.int (Int32.ofNat len)), z'] [])) := by
    intro r
    induction r with
    | zero =>
      intro i hi z hz Tl Bk Xl pl fl cl
      have hil : i = len := by omega
      rw [hil] at Xl fl cl
      exact ⟨Tl, Bk, z, Xl, pl, fl, cl⟩
    | succ r ih =>
      intro i hi z hz Tl Bk Xl pl fl cl
      have all := X0.warmed.alike.symm.trans Xl.warmed.alike
      have hAl := hA0.keep all (pl.other hne hA0.1)
      have hBk := hB0.like all pl.1 fl.1 fl.2.1 fl.2.2.1
      have hlt : q + i < Bk.slots.size := by rw [fl.2.2.1]; omega
      have c3 : Steps p.tables e below (s₁.setTop (entryFrame m #[.ref b, .int (Int32.ofNat o), .ref d, .int (Int32.ofNat q), .int (Int32.ofNat len)] 7)) (Tl.setTop (mkF m 12 #[.val (.ref b), .val (.int (Int32.ofNat (o + i))), .val (.ref d), .val (.int (Int32.ofNat (q + i))), .val (.int (Int32.ofNat len)), .val (.int (Int32.ofNat i)), z] [.int (Int32.ofNat (o + i)), .ref b])) := cl.trans (by
        refine XS.iload Xl.here hexec rfl (hb hbytes d3) rfl ?_
        refine XS.iload Xl.here hexec rfl (hb hbytes d5) rfl ?_
        refine XS.icmpNo Xl.here hexec rfl (hb hbytes d7) rfl (ii_ge_f (lt32 (by omega) (by omega))) ?_
        refine XS.aloadN Xl.here hexec rfl (hb hbytes d10) rfl rfl ?_
        refine XS.iloadN Xl.here hexec rfl (hb hbytes d11) rfl ?_
        exact Steps.refl _)
      have c4 : Steps p.tables e below (s₁.setTop (entryFrame m #[.ref b, .int (Int32.ofNat o), .ref d, .int (Int32.ofNat q), .int (Int32.ofNat len)] 7)) (Tl.setTop (mkF m 13 #[.val (.ref b), .val (.int (Int32.ofNat (o + i))), .val (.ref d), .val (.int (Int32.ofNat (q + i))), .val (.int (Int32.ofNat len)), .val (.int (Int32.ofNat i)), z] [.int (cv A (o + i))])) := c3.trans (by
        refine Xl.aget hexec hAl rfl (hA.get (i := o + i) (by omega)) rfl rfl (hb hbytes d12) ?_
        exact Steps.refl _)
      have c5 : Steps p.tables e below (s₁.setTop (entryFrame m #[.ref b, .int (Int32.ofNat o), .ref d, .int (Int32.ofNat q), .int (Int32.ofNat len)] 7)) (Tl.setTop (mkF m 15 #[.val (.ref b), .val (.int (Int32.ofNat (o + i))), .val (.ref d), .val (.int (Int32.ofNat (q + i))), .val (.int (Int32.ofNat len)), .val (.int (Int32.ofNat i)), .val (.int (cv A (o + i)))] [])) := c4.trans (by
        refine XS.istoreS Xl.here hexec rfl (hb hbytes d13) rfl rfl hz ?_
        exact Steps.refl _)
      have c6 : Steps p.tables e below (s₁.setTop (entryFrame m #[.ref b, .int (Int32.ofNat o), .ref d, .int (Int32.ofNat q), .int (Int32.ofNat len)] 7)) (Tl.setTop (mkF m 31 #[.val (.ref b), .val (.int (Int32.ofNat (o + i))), .val (.ref d), .val (.int (Int32.ofNat (q + i))), .val (.int (Int32.ofNat len)), .val (.int (Int32.ofNat i)), .val (.int (cv A (o + i)))] [.int (lo8 (cv A (o + i))), .int (Int32.ofNat (q + i)), .ref d])) := c5.trans (by
        refine XS.iload Xl.here hexec rfl (hb hbytes d15) rfl ?_
        refine sipushV Xl.here hexec rfl 255 (hb hbytes d17) (by decide) ?_
        refine XS.icmpYes Xl.here hexec rfl (pc0 := 20) rfl (hb hbytes d20) rfl (ii_le_t (hp i (by omega))) (by decide) rfl ?_
        refine XS.aloadN Xl.here hexec rfl (hb hbytes d26) rfl rfl ?_
        refine XS.iloadN Xl.here hexec rfl (hb hbytes d27) rfl ?_
        refine XS.iload Xl.here hexec rfl (hb hbytes d28) rfl ?_
        refine i2b Xl.here hexec rfl (hb hbytes d30) rfl ?_
        exact Steps.refl _)
      obtain ⟨T7, X7, p7, st7⟩ := Xl.aput hexec hBk rfl hlt rfl (fits_lo8 (cv A (o + i))) (g := (mkF m 31 #[.val (.ref b), .val (.int (Int32.ofNat (o + i))), .val (.ref d), .val (.int (Int32.ofNat (q + i))), .val (.int (Int32.ofNat len)), .val (.int (Int32.ofNat i)), .val (.int (cv A (o + i)))] [.int (lo8 (cv A (o + i))), .int (Int32.ofNat (q + i)), .ref d])) rfl (rest := []) rfl (hb hbytes d31)
      have c8 : Steps p.tables e below (s₁.setTop (entryFrame m #[.ref b, .int (Int32.ofNat o), .ref d, .int (Int32.ofNat q), .int (Int32.ofNat len)] 7)) (T7.setTop (mkF m 32 #[.val (.ref b), .val (.int (Int32.ofNat (o + i))), .val (.ref d), .val (.int (Int32.ofNat (q + i))), .val (.int (Int32.ofNat len)), .val (.int (Int32.ofNat i)), .val (.int (cv A (o + i)))] [])) := c6.trans (st7 _ (Steps.refl _))
      have c9 : Steps p.tables e below (s₁.setTop (entryFrame m #[.ref b, .int (Int32.ofNat o), .ref d, .int (Int32.ofNat q), .int (Int32.ofNat len)] 7)) (T7.setTop (mkF m 3 #[.val (.ref b), .val (.int (Int32.ofNat (o + i) + 1)), .val (.ref d), .val (.int (Int32.ofNat (q + i) + 1)), .val (.int (Int32.ofNat len)), .val (.int (Int32.ofNat i + 1)), .val (.int (cv A (o + i)))] [])) := c8.trans (by
        refine iincV X7.here hexec rfl 1 (hb hbytes d32) (by decide) rfl rfl ?_
        refine iincV X7.here hexec rfl 1 (hb hbytes d35) (by decide) rfl rfl ?_
        refine iincV X7.here hexec rfl 1 (hb hbytes d38) (by decide) rfl rfl ?_
        refine XS.goto X7.here hexec rfl (pc0 := 41) rfl (hb hbytes d41) (by decide) rfl ?_
        exact Steps.refl _)
      have c10 : Steps p.tables e below (s₁.setTop (entryFrame m #[.ref b, .int (Int32.ofNat o), .ref d, .int (Int32.ofNat q), .int (Int32.ofNat len)] 7)) (T7.setTop (mkF m 3 #[.val (.ref b), .val (.int (Int32.ofNat (o + (i + 1)))), .val (.ref d), .val (.int (Int32.ofNat (q + (i + 1)))), .val (.int (Int32.ofNat len)), .val (.int (Int32.ofNat (i + 1))), .val (.int (cv A (o + i)))] [])) := by
        have := c9
        rw [succ32, succ32, succ32] at this
        exact this
      exact ih (i + 1) (by omega) _ (Or.inr ⟨_, rfl, rfl⟩) T7 _ (by rw [copyLocs_step, ← List.append_assoc]; exact X7) (pl.trans p7) (fl.step (by omega) hlt (by simp)) c10
  obtain ⟨T9, B9, z9, X9, p9, f9, g9⟩ := loop len 0 (by omega) .unset (Or.inl rfl) s₁ B (by simpa [copyLocs] using X0) ⟨hB0.1, fun _ _ => rfl, rfl⟩ (Laid.zero _ _ _) c2
  have c11 : Steps p.tables e below (s₁.setTop (entryFrame m #[.ref b, .int (Int32.ofNat o), .ref d, .int (Int32.ofNat q), .int (Int32.ofNat len)] 7)) (T9.setTop (mkF m 46 #[.val (.ref b), .val (.int (Int32.ofNat (o + len))), .val (.ref d), .val (.int (Int32.ofNat (q + len))), .val (.int (Int32.ofNat len)), .val (.int (Int32.ofNat len)), z9] [.int (Int32.ofNat len)])) := g9.trans (by
    refine XS.iload X9.here hexec rfl (hb hbytes d3) rfl ?_
    refine XS.iload X9.here hexec rfl (hb hbytes d5) rfl ?_
    refine XS.icmpYes X9.here hexec rfl (pc0 := 7) rfl (hb hbytes d7) rfl (ii_ge_t (nlt32 (by omega) (Nat.le_refl _))) (by decide) rfl ?_
    refine XS.iload X9.here hexec rfl (hb hbytes d44) rfl ?_
    exact Steps.refl _)
  exact ⟨T9, some (.int (Int32.ofNat len)), _, _, _, X9, by simp, rfl, rfl, (fun h => by cases h), ⟨rfl, B9, p9.from hh0, f9⟩, fun fs hl => c11.trans (X9.ireturnOut hexec hret rfl (Or.inl rfl) (hb hbytes d46) hl)⟩
end Cmp5
namespace Cmp3
def yN : MethodName := ⟨"java/lang/StringUTF16", "compress", "([CII)[B"⟩
abbrev yB : ByteArray := jdk_52_method_16_code
theorem d0 : decode yB 0 = .ok (.iload_n 2, 1) := by decide +kernel
theorem d1 : decode yB 1 = .ok (.newarray .byte, 2) := by decide +kernel
theorem d3 : decode yB 3 = .ok (.astore_n 3, 1) := by decide +kernel
theorem d4 : decode yB 4 = .ok (.aload_n 0, 1) := by decide +kernel
theorem d5 : decode yB 5 = .ok (.iload_n 1, 1) := by decide +kernel
theorem d6 : decode yB 6 = .ok (.aload_n 3, 1) := by decide +kernel
theorem d7 : decode yB 7 = .ok (.iconst 0, 1) := by decide +kernel
theorem d8 : decode yB 8 = .ok (.iload_n 2, 1) := by decide +kernel
theorem d9 : decode yB 9 = .ok (.invokestatic 115, 3) := by decide +kernel
theorem d12 : decode yB 12 = .ok (.istore 4, 2) := by decide +kernel
theorem d14 : decode yB 14 = .ok (.iload 4, 2) := by decide +kernel
theorem d16 : decode yB 16 = .ok (.iload_n 2, 1) := by decide +kernel
theorem d17 : decode yB 17 = .ok (.if_icmp (.eq) 40, 3) := by decide +kernel
theorem d57 : decode yB 57 = .ok (.aload_n 3, 1) := by decide +kernel
theorem d58 : decode yB 58 = .ok (.areturn, 1) := by decide +kernel
def site : List Cond := [.arrayClass .byte, Cmp5.tab] ++ staticW U16 115 Cmp5.yN
def tab : Cond := tabOf yN yB 6 (some (.array .byte)) site
def P (b : Addr) (A : Cell) (o len : Nat) (args : Array Value) (s : State) : Prop := args = #[.ref b, .int (Int32.ofNat o), .int (Int32.ofNat len)] ∧ Ch b A s ∧ o + len ≤ A.slots.size ∧ len ≤ 536870912 ∧ ∀ i, i < len → ¬ 255 < cv A (o + i)
def E (b : Addr) (A : Cell) (o len : Nat) (r : Option Value) (s u : State) : Prop := NewArr .byte "[B" len (fun j => .int (lo8 (cv A (o + j)))) r s u ∧ u.heap.size = s.heap.size + 1
/-- no char of the range above 255: a new byte[] of their low bytes -/
theorem law (l : Launch) (b : Addr) (A : Cell) (o len : Nat) : Law l yN 3 3 1 18 yB 6 (some (.array .byte)) site (P b A o len) (E b A o len) [] 1 len := by
  refine Law.of_walk (plainFor_of_name (by decide +kernel)) (by decide +kernel) (by decide +kernel) (by decide) (fun _ _ h => by rw [h.1]; rfl) (fun _ U U' hal hh h => ⟨h.1, h.2.1.mv hal hh, h.2.2⟩) (fun r U U' V V' h1 hal h2 h => ⟨NewArr.mv r U U' V V' h1 hal h2 h.1, by rw [h1, h2]; exact h.2⟩) ?_
  intro p e s m args below meth c s₁ X0 hexec hbytes hml hret hlk hnm hown hh0 W hP
  obtain ⟨rfl, hA, l1, l2, hp⟩ := hP
  have a31 := hA.1.2.2.2
  have c1 : Steps p.tables e below (s₁.setTop (entryFrame m #[.ref b, .int (Int32.ofNat o), .int (Int32.ofNat len)] 6)) (s₁.setTop (mkF m 0 #[.val (.ref b), .val (.int (Int32.ofNat o)), .val (.int (Int32.ofNat len)), .unset, .unset, .unset] [])) := entry rfl
  have c2 : Steps p.tables e below (s₁.setTop (entryFrame m #[.ref b, .int (Int32.ofNat o), .int (Int32.ofNat len)] 6)) (s₁.setTop (mkF m 1 #[.val (.ref b), .val (.int (Int32.ofNat o)), .val (.int (Int32.ofNat len)), .unset, .unset, .unset] [.int (Int32.ofNat len)])) := c1.trans (by
    refine XS.iloadN X0.here hexec rfl (hb hbytes d0) rfl ?_
    exact Steps.refl _)
  obtain ⟨T3, B3, X3, ba3, bs3, bv3, bh3, bf3, st3⟩ := X0.anew hexec (atype := .byte) (wk W (.arrayClass .byte)) rfl (by show len * 1 ≤ _; omega) (by omega) (g := (mkF m 1 #[.val (.ref b), .val (.int (Int32.ofNat o)), .val (.int (Int32.ofNat len)), .unset, .unset, .unset] [.int (Int32.ofNat len)])) rfl (hb hbytes d1) (rest := []) rfl (Nat.le_refl _) (by show 0 + len ≤ len; omega)
  rw [hh0] at ba3 st3
  have kp3 : XT.Kept s T3 := (XT.Kept.of_eq hh0).push bh3
  have hA3 := hA.keep X3.warmed.alike (kp3 _ _ hA.1.1)
  have hne : b ≠ s.heap.size := hA.1.ne
  have c4 : Steps p.tables e below (s₁.setTop (entryFrame m #[.ref b, .int (Int32.ofNat o), .int (Int32.ofNat len)] 6)) (T3.setTop (mkF m 3 #[.val (.ref b), .val (.int (Int32.ofNat o)), .val (.int (Int32.ofNat len)), .unset, .unset, .unset] [.ref s.heap.size])) := c2.trans (st3 _ (Steps.refl _))
  have c5 : Steps p.tables e below (s₁.setTop (entryFrame m #[.ref b, .int (Int32.ofNat o), .int (Int32.ofNat len)] 6)) (T3.setTop (mkF m 9 #[.val (.ref b), .val (.int (Int32.ofNat o)), .val (.int (Int32.ofNat len)), .val (.ref s.heap.size), .unset, .unset] [.int (Int32.ofNat len), .int 0, .ref s.heap.size, .int (Int32.ofNat o), .ref b])) := c4.trans (by
    refine XS.astoreN X3.here hexec rfl (hb hbytes d3) rfl rfl rfl ?_
    refine XS.aloadN X3.here hexec rfl (hb hbytes d4) rfl rfl ?_
    refine XS.iloadN X3.here hexec rfl (hb hbytes d5) rfl ?_
    refine XS.aloadN X3.here hexec rfl (hb hbytes d6) rfl rfl ?_
    refine iconstV X3.here hexec rfl 0 (hb hbytes d7) (by decide) ?_
    refine XS.iloadN X3.here hexec rfl (hb hbytes d8) rfl ?_
    exact Steps.refl _)
  obtain ⟨v6, T6, X6, E6, g6⟩ := X3.callS hexec (Cmp5.law l b A s.heap.size B3 o 0 len) hown (wks W (staticW U16 115 Cmp5.yN)) (wk W Cmp5.tab) (W := 0) (Nat.le_of_ble_eq_true rfl) (Nat.le_of_ble_eq_true rfl) (Nat.le_refl _) (by show 0 + len + 0 ≤ len; omega) (g := (mkF m 9 #[.val (.ref b), .val (.int (Int32.ofNat o)), .val (.int (Int32.ofNat len)), .val (.ref s.heap.size), .unset, .unset] [.int (Int32.ofNat len), .int (Int32.ofNat 0), .ref s.heap.size, .int (Int32.ofNat o), .ref b])) rfl (by rw [hml]; rfl) c5 (argsL := [.ref b, .int (Int32.ofNat o), .ref s.heap.size, .int (Int32.ofNat 0), .int (Int32.ofNat len)]) (rest := []) rfl rfl (by show 2 * 0 + 0 ≤ _; decide) (hb hbytes d9) (⟨rfl, hA3, ba3, hne, l1, by rw [bs3]; simp, hp⟩)
  obtain ⟨rfl, B6, p6, f6⟩ := E6
  have c7 : Steps p.tables e below (s₁.setTop (entryFrame m #[.ref b, .int (Int32.ofNat o), .int (Int32.ofNat len)] 6)) (T6.setTop (mkF m 12 #[.val (.ref b), .val (.int (Int32.ofNat o)), .val (.int (Int32.ofNat len)), .val (.ref s.heap.size), .unset, .unset] [.int (Int32.ofNat len)])) := g6
  have c8 : Steps p.tables e below (s₁.setTop (entryFrame m #[.ref b, .int (Int32.ofNat o), .int (Int32.ofNat len)] 6)) (T6.setTop (mkF m 58 #[.val (.ref b), .val (.int (Int32.ofNat o)), .val (.int (Int32.ofNat len)), .val (.ref s.heap.size), .val (.int (Int32.ofNat len)), .unset] [.ref s.heap.size])) := c7.trans (by
    refine XS.istore X6.here hexec rfl (hb hbytes d12) rfl rfl ?_
    refine XS.iload X6.here hexec rfl (hb hbytes d14) rfl ?_
    refine XS.iloadN X6.here hexec rfl (hb hbytes d16) rfl ?_
    refine XS.icmpYes X6.here hexec rfl (pc0 := 17) rfl (hb hbytes d17) rfl (ii_eq_t rfl) (by decide) rfl ?_
    refine XS.aloadN X6.here hexec rfl (hb hbytes d57) rfl rfl ?_
    exact Steps.refl _)
  have X8 := X6.wide (L' := []) (cells' := 1) (slots' := len) (fun x hx hlt => by
    simp only [List.nil_append, copyLocs, List.mem_map, List.mem_range] at hx
    obtain ⟨i, -, rfl⟩ := hx
    exact absurd hlt (Nat.lt_irrefl _)) (Nat.le_refl _) (by omega)
  exact ⟨T6, some (.ref s.heap.size), _, _, _, X8, rfl, rfl, rfl, (fun h => by cases h), ⟨⟨rfl, B6, ba3.like (X3.warmed.alike.symm.trans X6.warmed.alike) p6.1 f6.1 f6.2.1 f6.2.2.1, f6.2.1.trans bv3, by rw [X6.warmed.alike.findClass, f6.1]; exact bf3, by rw [f6.2.2.1, bs3]; simp, fun j hj => by rw [f6.2.2.2 j, if_pos (by omega)]; rfl, kp3.put p6 (Nat.le_refl _)⟩, by rw [p6.2.2, bh3, hh0]; simp⟩, fun fs hl => c8.trans (X8.areturnOut hexec rfl hret rfl (hb hbytes d58) hl)⟩
end Cmp3
namespace CodL
def yN : MethodName := ⟨"java/lang/StringUTF16", "coderFromArrayLen", "([BI)B"⟩
abbrev yB : ByteArray := jdk_52_method_15_code
theorem d0 : decode yB 0 = .ok (.iload_n 1, 1) := by decide +kernel
theorem d1 : decode yB 1 = .ok (.aload_n 0, 1) := by decide +kernel
theorem d2 : decode yB 2 = .ok (.arraylength, 1) := by decide +kernel
theorem d3 : decode yB 3 = .ok (.isub, 1) := by decide +kernel
theorem d4 : decode yB 4 = .ok (.bipush 31, 2) := by decide +kernel
theorem d6 : decode yB 6 = .ok (.iushr, 1) := by decide +kernel
theorem d7 : decode yB 7 = .ok (.i2b, 1) := by decide +kernel
theorem d8 : decode yB 8 = .ok (.ireturn, 1) := by decide +kernel
def site : List Cond := []
def tab : Cond := tabOf yN yB 2 (some .byte) site
def P (d : Addr) (B : Cell) (args : Array Value) (s : State) : Prop := args = #[.ref d, .int (Int32.ofNat B.slots.size)] ∧ Arr .byte d B s
def E (r : Option Value) (s u : State) : Prop := XT.PureE (some (.int 0)) r s u
/-- an array as long as the number of chars: LATIN1 -/
theorem law (l : Launch) (d : Addr) (B : Cell) : Law l yN 2 2 0 0 yB 2 (some .byte) site (P d B) E [] 0 0 := by
  refine Law.of_walk (plainFor_of_name (by decide +kernel)) (by decide +kernel) (by decide +kernel) (by decide) (fun _ _ h => by rw [h.1]; rfl) (fun _ U U' hal hh h => ⟨h.1, h.2.mv hal hh⟩) (fun r U U' V V' h1 hal h2 h => XT.PureE.mv r U U' V V' h1 hal h2 h) ?_
  intro p e s m args below meth c s₁ X0 hexec hbytes hml hret hlk hnm hown hh0 W hP
  obtain ⟨rfl, hB⟩ := hP
  have hB0 := hB.mv X0.warmed.alike hh0
  have c1 : Steps p.tables e below (s₁.setTop (entryFrame m #[.ref d, .int (Int32.ofNat B.slots.size)] 2)) (s₁.setTop (mkF m 0 #[.val (.ref d), .val (.int (Int32.ofNat B.slots.size))] [])) := entry rfl
  have c2 : Steps p.tables e below (s₁.setTop (entryFrame m #[.ref d, .int (Int32.ofNat B.slots.size)] 2)) (s₁.setTop (mkF m 2 #[.val (.ref d), .val (.int (Int32.ofNat B.slots.size))] [.ref d, .int (Int32.ofNat B.slots.size)])) := c1.trans (by
    refine XS.iloadN X0.here hexec rfl (hb hbytes d0) rfl ?_
    refine XS.aloadN X0.here hexec rfl (hb hbytes d1) rfl rfl ?_
    exact Steps.refl _)
  have c3 : Steps p.tables e below (s₁.setTop (entryFrame m #[.ref d, .int (Int32.ofNat B.slots.size)] 2)) (s₁.setTop (mkF m 8 #[.val (.ref d), .val (.int (Int32.ofNat B.slots.size))] [.int (lo8 (ushr (Int32.ofNat B.slots.size - Int32.ofNat B.slots.size) 31))])) := c2.trans (by
    refine X0.alen hexec hB0 rfl rfl (hb hbytes d2) ?_
    refine XS.isub X0.here hexec rfl (hb hbytes d3) rfl ?_
    refine bipushV X0.here hexec rfl 31 (hb hbytes d4) (by decide) ?_
    refine iushr X0.here hexec rfl (hb hbytes d6) rfl ?_
    refine i2b X0.here hexec rfl (hb hbytes d7) rfl ?_
    exact Steps.refl _)
  have e0 : lo8 (ushr (Int32.ofNat B.slots.size - Int32.ofNat B.slots.size) 31) = 0 := by rw [Int32.sub_self]; decide
  rw [e0] at c3
  exact ⟨s₁, some (.int 0), _, _, _, X0, rfl, rfl, rfl, (fun h => by cases h), ⟨rfl, hh0⟩, fun fs hl => c3.trans (X0.ireturnOut hexec hret rfl (Or.inr (Or.inr (Or.inl rfl))) (hb hbytes d8) hl)⟩
end CodL
/-- the String at a is Latin-1 over a new byte[] (the heap's one new cell): the low bytes of the len chars of A from o on; every cell but a is kept -/
def Got (a : Addr) (D : Cell) (fV fC : Field) (A : Cell) (o len : Nat) (r : Option Value) (s u : State) : Prop := r = none ∧ ∃ D' V : Cell, Blank "java/lang/String" a D' u ∧ Same D D' [fV.slot, fC.slot] ∧ D'.slots[fV.slot]? = some (.ref s.heap.size) ∧ D'.slots[fC.slot]? = some (.int 0) ∧ Arr .byte s.heap.size V u ∧ V.vm = .none ∧ u.vm.findClass "[B" = some V.cls ∧ V.slots.size = len ∧ (∀ j, j < len → V.slots[j]? = some (.int (lo8 (cv A (o + j))))) ∧ (∀ (y : Addr) (c : Cell), y ≠ a → s.heap[y]? = some c → u.heap[y]? = some c) ∧ u.heap.size = s.heap.size + 1
theorem Got.mv {a : Addr} {D A : Cell} {fV fC : Field} {o len : Nat} : ∀ r (U U' V V' : State), U'.heap = U.heap → V.vm.Alike V'.vm → V'.heap = V.heap → Got a D fV fC A o len r U V → Got a D fV fC A o len r U' V' :=
  fun r U U' V V' h1 hal h2 ⟨e0, D', X, a1, a2, a3, a4, a5, a6, a7, a8, a9, a10, a11⟩ => ⟨e0, D', X, a1.mv hal h2, a2, by rw [h1]; exact a3, a4, by rw [h1]; exact a5.mv hal h2, a6, by rw [hal.findClass]; exact a7, a8, a9, by rw [h1, h2]; exact a10, by rw [h1, h2]; exact a11⟩
namespace New4
def yN : MethodName := ⟨"java/lang/String", "<init>", "([CIILjava/lang/Void;)V"⟩
abbrev yB : ByteArray := jdk_42_method_149_code
theorem d0 : decode yB 0 = .ok (.aload_n 0, 1) := by decide +kernel
theorem d1 : decode yB 1 = .ok (.invokespecial 1, 3) := by decide +kernel
theorem d4 : decode yB 4 = .ok (.iload_n 3, 1) := by decide +kernel
theorem d5 : decode yB 5 = .ok (.ifCond (.ne) 22, 3) := by decide +kernel
theorem d27 : decode yB 27 = .ok (.getstatic 38, 3) := by decide +kernel
theorem d30 : decode yB 30 = .ok (.ifCond (.eq) 28, 3) := by decide +kernel
theorem d33 : decode yB 33 = .ok (.aload_n 1, 1) := by decide +kernel
theorem d34 : decode yB 34 = .ok (.iload_n 2, 1) := by decide +kernel
theorem d35 : decode yB 35 = .ok (.iload_n 3, 1) := by decide +kernel
theorem d36 : decode yB 36 = .ok (.invokestatic 177, 3) := by decide +kernel
theorem d39 : decode yB 39 = .ok (.astore 5, 2) := by decide +kernel
theorem d41 : decode yB 41 = .ok (.aload_n 0, 1) := by decide +kernel
theorem d42 : decode yB 42 = .ok (.aload 5, 2) := by decide +kernel
theorem d44 : decode yB 44 = .ok (.iload_n 3, 1) := by decide +kernel
theorem d45 : decode yB 45 = .ok (.invokestatic 47, 3) := by decide +kernel
theorem d48 : decode yB 48 = .ok (.putfield 15, 3) := by decide +kernel
theorem d51 : decode yB 51 = .ok (.aload_n 0, 1) := by decide +kernel
theorem d52 : decode yB 52 = .ok (.aload 5, 2) := by decide +kernel
theorem d54 : decode yB 54 = .ok (.putfield 9, 3) := by decide +kernel
theorem d57 : decode yB 57 = .ok (.return_, 1) := by decide +kernel
def site : List Cond := [.fieldLink "java/lang/String" 38 "java/lang/String" "COMPACT_STRINGS" "Z", Cmp3.tab, CodL.tab, .laysFinal "java/lang/String" "java/lang/String" "value" "[B", .fieldLink "java/lang/String" 9 "java/lang/String" "value" "[B", .laysFinal "java/lang/String" "java/lang/String" "coder" "B", .fieldLink "java/lang/String" 15 "java/lang/String" "coder" "B"] ++ objW "java/lang/String" 1 ++ staticW "java/lang/String" 177 Cmp3.yN ++ staticW "java/lang/String" 47 CodL.yN
def tab : Cond := tabOf yN yB 6 none site
def P (a : Addr) (D : Cell) (fV fC : Field) (b : Addr) (A : Cell) (z : Int32) (o len : Nat) (args : Array Value) (s : State) : Prop := args = #[.ref a, .ref b, .int (Int32.ofNat o), .int (Int32.ofNat len), .null] ∧ Blank "java/lang/String" a D s ∧ Found "java/lang/String" "value" "[B" fV s ∧ Found "java/lang/String" "coder" "B" fC s ∧ Ch b A s ∧ StaticIs s "java/lang/String" "COMPACT_STRINGS" "Z" (.int z) ∧ ¬ z = 0 ∧ 0 < len ∧ o + len ≤ A.slots.size ∧ len ≤ 536870912 ∧ ∀ i, i < len → ¬ 255 < cv A (o + i)
def E (a : Addr) (D : Cell) (fV fC : Field) (A : Cell) (o len : Nat) (r : Option Value) (s u : State) : Prop := Got a D fV fC A o len r s u
/-- len > 0, no char of the range above 255: a Latin-1 String of their low bytes -/
theorem law (l : Launch) (a : Addr) (D : Cell) (fV fC : Field) (b : Addr) (A : Cell) (z : Int32) (o len : Nat) : Law l yN 5 4 2 35 yB 6 none site (P a D fV fC b A z o len) (E a D fV fC A o len) [⟨a, fC.slot⟩, ⟨a, fV.slot⟩] 1 len := by
  refine Law.of_walk (plainFor_of_name (by decide +kernel)) (by decide +kernel) (by decide +kernel) (by decide) (fun _ _ h => by rw [h.1]; rfl) (fun _ U U' hal hh h => ⟨h.1, h.2.1.mv hal hh, h.2.2.1.al hal, h.2.2.2.1.al hal, h.2.2.2.2.1.mv hal hh, h.2.2.2.2.2.1.there hal hh, h.2.2.2.2.2.2⟩) (fun r U U' V V' h1 hal h2 h => Got.mv r U U' V V' h1 hal h2 h) ?_
  intro p e s m args below meth c s₁ X0 hexec hbytes hml hret hlk hnm hown hh0 W hP
  obtain ⟨rfl, hB, f1, f2, hA, s1, hz, l0, l1, l2, hp⟩ := hP
  have a31 := hA.1.2.2.2
  have c1 : Steps p.tables e below (s₁.setTop (entryFrame m #[.ref a, .ref b, .int (Int32.ofNat o), .int (Int32.ofNat len), .null] 6)) (s₁.setTop (mkF m 0 #[.val (.ref a), .val (.ref b), .val (.int (Int32.ofNat o)), .val (.int (Int32.ofNat len)), .val .null, .unset] [])) := entry rfl
  have c2 : Steps p.tables e below (s₁.setTop (entryFrame m #[.ref a, .ref b, .int (Int32.ofNat o), .int (Int32.ofNat len), .null] 6)) (s₁.setTop (mkF m 1 #[.val (.ref a), .val (.ref b), .val (.int (Int32.ofNat o)), .val (.int (Int32.ofNat len)), .val .null, .unset] [.ref a])) := c1.trans (by
    refine XS.aloadN X0.here hexec rfl (hb hbytes d0) rfl rfl ?_
    exact Steps.refl _)
  obtain ⟨T3, X3, q3, st3⟩ := X0.oinit hexec hown (wks W (objW "java/lang/String" 1)) (g := (mkF m 1 #[.val (.ref a), .val (.ref b), .val (.int (Int32.ofNat o)), .val (.int (Int32.ofNat len)), .val .null, .unset] [.ref a])) rfl (by rw [hml]; rfl) (rest := []) rfl (hb hbytes d1) (W := 0) (by show 2 * 0 + 0 ≤ _; decide) (Nat.le_of_ble_eq_true rfl) (Nat.le_of_ble_eq_true rfl)
  have hh3 := q3.trans hh0
  have c4 : Steps p.tables e below (s₁.setTop (entryFrame m #[.ref a, .ref b, .int (Int32.ofNat o), .int (Int32.ofNat len), .null] 6)) (T3.setTop (mkF m 27 #[.val (.ref a), .val (.ref b), .val (.int (Int32.ofNat o)), .val (.int (Int32.ofNat len)), .val .null, .unset] [])) := (c2.trans (st3 _ (Steps.refl _))).trans (by
    refine XS.iloadN X3.here hexec rfl (hb hbytes d4) rfl ?_
    refine XS.ifYes X3.here hexec rfl (pc0 := 5) rfl (hb hbytes d5) rfl (i0_ne_t (nz32 (by omega) l0)) (by decide) rfl ?_
    exact Steps.refl _)
  obtain ⟨T5, X5, q5, st5⟩ := X3.sget hexec hown (wk W (.fieldLink "java/lang/String" 38 "java/lang/String" "COMPACT_STRINGS" "Z")) s1 (fun _ _ h => by rw [hh3]; exact h) (g := (mkF m 27 #[.val (.ref a), .val (.ref b), .val (.int (Int32.ofNat o)), .val (.int (Int32.ofNat len)), .val .null, .unset] [])) rfl (hb hbytes d27)
  have hh5 := q5.trans hh3
  have c6 : Steps p.tables e below (s₁.setTop (entryFrame m #[.ref a, .ref b, .int (Int32.ofNat o), .int (Int32.ofNat len), .null] 6)) (T5.setTop (mkF m 30 #[.val (.ref a), .val (.ref b), .val (.int (Int32.ofNat o)), .val (.int (Int32.ofNat len)), .val .null, .unset] [.int z])) := c4.trans (st5 _ (Steps.refl _))
  have c7 : Steps p.tables e below (s₁.setTop (entryFrame m #[.ref a, .ref b, .int (Int32.ofNat o), .int (Int32.ofNat len), .null] 6)) (T5.setTop (mkF m 36 #[.val (.ref a), .val (.ref b), .val (.int (Int32.ofNat o)), .val (.int (Int32.ofNat len)), .val .null, .unset] [.int (Int32.ofNat len), .int (Int32.ofNat o), .ref b])) := c6.trans (by
    refine XS.ifNo X5.here hexec rfl (hb hbytes d30) rfl (i0_eq_f hz) ?_
    refine XS.aloadN X5.here hexec rfl (hb hbytes d33) rfl rfl ?_
    refine XS.iloadN X5.here hexec rfl (hb hbytes d34) rfl ?_
    refine XS.iloadN X5.here hexec rfl (hb hbytes d35) rfl ?_
    exact Steps.refl _)
  obtain ⟨v8, T8, X8, E8, g8⟩ := X5.callS hexec (Cmp3.law l b A o len) hown (wks W (staticW "java/lang/String" 177 Cmp3.yN)) (wk W Cmp3.tab) (W := 0) (Nat.le_of_ble_eq_true rfl) (Nat.le_of_ble_eq_true rfl) (Nat.le_refl _) (by show 0 + len ≤ len; omega) (g := (mkF m 36 #[.val (.ref a), .val (.ref b), .val (.int (Int32.ofNat o)), .val (.int (Int32.ofNat len)), .val .null, .unset] [.int (Int32.ofNat len), .int (Int32.ofNat o), .ref b])) rfl (by rw [hml]; rfl) c7 (argsL := [.ref b, .int (Int32.ofNat o), .int (Int32.ofNat len)]) (rest := []) rfl rfl (by show 2 * 0 + 0 ≤ _; decide) (hb hbytes d36) (⟨rfl, hA.mv X5.warmed.alike hh5, l1, l2, hp⟩)
  obtain ⟨e8, z8⟩ := E8
  obtain ⟨rfl, N, n1, n2, n3, n4, n5, n6⟩ := NewArr.mv _ T5 s _ _ hh5.symm (Vm.Alike.refl _) rfl e8
  rw [hh5] at z8
  have hB1 := hB.keep X8.warmed.alike (n6 _ _ hB.1)
  have hne : s.heap.size ≠ a := (Nat.ne_of_lt (Array.getElem?_eq_some_iff.mp hB.1).1).symm
  have c9 : Steps p.tables e below (s₁.setTop (entryFrame m #[.ref a, .ref b, .int (Int32.ofNat o), .int (Int32.ofNat len), .null] 6)) (T8.setTop (mkF m 39 #[.val (.ref a), .val (.ref b), .val (.int (Int32.ofNat o)), .val (.int (Int32.ofNat len)), .val .null, .unset] [.ref s.heap.size])) := g8
  have c10 : Steps p.tables e below (s₁.setTop (entryFrame m #[.ref a, .ref b, .int (Int32.ofNat o), .int (Int32.ofNat len), .null] 6)) (T8.setTop (mkF m 45 #[.val (.ref a), .val (.ref b), .val (.int (Int32.ofNat o)), .val (.int (Int32.ofNat len)), .val .null, .val (.ref s.heap.size)] [.int (Int32.ofNat N.slots.size), .ref s.heap.size, .ref a])) := by
    have hc : Steps p.tables e below (s₁.setTop (entryFrame m #[.ref a, .ref b, .int (Int32.ofNat o), .int (Int32.ofNat len), .null] 6)) (T8.setTop (mkF m 45 #[.val (.ref a), .val (.ref b), .val (.int (Int32.ofNat o)), .val (.int (Int32.ofNat len)), .val .null, .val (.ref s.heap.size)] [.int (Int32.ofNat len), .ref s.heap.size, .ref a])) := c9.trans (by
      refine XS.astore X8.here hexec rfl (hb hbytes d39) rfl rfl rfl ?_
      refine XS.aloadN X8.here hexec rfl (hb hbytes d41) rfl rfl ?_
      refine XS.aload X8.here hexec rfl (hb hbytes d42) rfl rfl ?_
      refine XS.iloadN X8.here hexec rfl (hb hbytes d44) rfl ?_
      exact Steps.refl _)
    rw [n4]; exact hc
  obtain ⟨v11, T11, X11, E11, g11⟩ := X8.callS hexec (CodL.law l s.heap.size N) hown (wks W (staticW "java/lang/String" 47 CodL.yN)) (wk W CodL.tab) (W := 1) (Nat.le_of_ble_eq_true rfl) (Nat.le_of_ble_eq_true rfl) (Nat.le_refl _) (by show 0 + len + 0 ≤ len; omega) (g := (mkF m 45 #[.val (.ref a), .val (.ref b), .val (.int (Int32.ofNat o)), .val (.int (Int32.ofNat len)), .val .null, .val (.ref s.heap.size)] [.int (Int32.ofNat N.slots.size), .ref s.heap.size, .ref a])) rfl (by rw [hml]; rfl) c10 (argsL := [.ref s.heap.size, .int (Int32.ofNat N.slots.size)]) (rest := [.ref a]) rfl rfl (by show 2 * 0 + (1 + 0) ≤ _; decide) (hb hbytes d45) (⟨rfl, n1⟩)
  obtain ⟨rfl, q11⟩ := E11
  have hB11 := hB1.mv (X8.warmed.alike.symm.trans X11.warmed.alike) q11
  have c12 : Steps p.tables e below (s₁.setTop (entryFrame m #[.ref a, .ref b, .int (Int32.ofNat o), .int (Int32.ofNat len), .null] 6)) (T11.setTop (mkF m 48 #[.val (.ref a), .val (.ref b), .val (.int (Int32.ofNat o)), .val (.int (Int32.ofNat len)), .val .null, .val (.ref s.heap.size)] [.int 0, .ref a])) := g11
  obtain ⟨T13, X13, p13, bl13, sl13, st13⟩ := X11.finit hexec hown (wk W (.fieldLink "java/lang/String" 15 "java/lang/String" "coder" "B")) (Or.inr ⟨_, (wk W (.laysFinal "java/lang/String" "java/lang/String" "coder" "B"))⟩) (Or.inl ⟨rfl, hnm⟩) f2 (Or.inl rfl) hB11 (t := .byte) (by decide +kernel) rfl (g := (mkF m 48 #[.val (.ref a), .val (.ref b), .val (.int (Int32.ofNat o)), .val (.int (Int32.ofNat len)), .val .null, .val (.ref s.heap.size)] [.int 0, .ref a])) rfl (rest := []) rfl (hb hbytes d48)
  have c14 : Steps p.tables e below (s₁.setTop (entryFrame m #[.ref a, .ref b, .int (Int32.ofNat o), .int (Int32.ofNat len), .null] 6)) (T13.setTop (mkF m 54 #[.val (.ref a), .val (.ref b), .val (.int (Int32.ofNat o)), .val (.int (Int32.ofNat len)), .val .null, .val (.ref s.heap.size)] [.ref s.heap.size, .ref a])) := (c12.trans (st13 _ (Steps.refl _))).trans (by
    refine XS.aloadN X13.here hexec rfl (hb hbytes d51) rfl rfl ?_
    refine XS.aload X13.here hexec rfl (hb hbytes d52) rfl rfl ?_
    exact Steps.refl _)
  obtain ⟨T15, X15, p15, bl15, sl15, st15⟩ := X13.finit hexec hown (wk W (.fieldLink "java/lang/String" 9 "java/lang/String" "value" "[B")) (Or.inr ⟨_, (wk W (.laysFinal "java/lang/String" "java/lang/String" "value" "[B"))⟩) (Or.inl ⟨rfl, hnm⟩) f1 (Or.inl rfl) bl13 (t := (.array .byte)) (by decide +kernel) rfl (g := (mkF m 54 #[.val (.ref a), .val (.ref b), .val (.int (Int32.ofNat o)), .val (.int (Int32.ofNat len)), .val .null, .val (.ref s.heap.size)] [.ref s.heap.size, .ref a])) rfl (rest := []) rfl (hb hbytes d54)
  have c16 : Steps p.tables e below (s₁.setTop (entryFrame m #[.ref a, .ref b, .int (Int32.ofNat o), .int (Int32.ofNat len), .null] 6)) (T15.setTop (mkF m 57 #[.val (.ref a), .val (.ref b), .val (.int (Int32.ofNat o)), .val (.int (Int32.ofNat len)), .val .null, .val (.ref s.heap.size)] [])) := c14.trans (st15 _ (Steps.refl _))
  have ap := apart (Or.inr ⟨_, (wk W (.laysFinal "java/lang/String" "java/lang/String" "value" "[B"))⟩) (Or.inr ⟨_, (wk W (.laysFinal "java/lang/String" "java/lang/String" "coder" "B"))⟩) f1 f2 (t₁ := .array .byte) (t₂ := .byte) (by decide +kernel) (by decide +kernel) (by decide)
  have al := X8.warmed.alike.symm.trans X15.warmed.alike
  have n7 : T11.heap[s.heap.size]? = some N := by rw [q11]; exact n1.1
  exact ⟨T15, none, _, _, _, X15, by simp, rfl, by omega, (fun _ => rfl), ⟨rfl, _, N, bl15, ((Same.refl D _).set _ (by simp)).set _ (by simp), sl15, (Cell.slots_setSlot_ne _ ap).trans sl13, n1.keep al (p15.other hne (p13.other hne n7)), n2, by rw [al.findClass]; exact n3, n4, n5, fun y c h1 h2 => p15.other h1 (p13.other h1 (by rw [q11]; exact n6 y c h2)), by rw [p15.2.2, p13.2.2, q11]; exact z8⟩, fun fs hl => c16.trans (X15.returnOut hexec hret (hb hbytes d57) hl)⟩
end New4
namespace New1
def yN : MethodName := ⟨"java/lang/String", "<init>", "([C)V"⟩
abbrev yB : ByteArray := jdk_42_method_3_code
theorem d0 : decode yB 0 = .ok (.aload_n 0, 1) := by decide +kernel
theorem d1 : decode yB 1 = .ok (.aload_n 1, 1) := by decide +kernel
theorem d2 : decode yB 2 = .ok (.iconst 0, 1) := by decide +kernel
theorem d3 : decode yB 3 = .ok (.aload_n 1, 1) := by decide +kernel
theorem d4 : decode yB 4 = .ok (.arraylength, 1) := by decide +kernel
theorem d5 : decode yB 5 = .ok (.aconst_null, 1) := by decide +kernel
theorem d6 : decode yB 6 = .ok (.invokespecial 27, 3) := by decide +kernel
theorem d9 : decode yB 9 = .ok (.return_, 1) := by decide +kernel
def site : List Cond := [New4.tab] ++ initW "java/lang/String" 27 New4.yN
def tab : Cond := tabOf yN yB 2 none site
def P (a : Addr) (D : Cell) (fV fC : Field) (b : Addr) (A : Cell) (z : Int32) (args : Array Value) (s : State) : Prop := args = #[.ref a, .ref b] ∧ Blank "java/lang/String" a D s ∧ Found "java/lang/String" "value" "[B" fV s ∧ Found "java/lang/String" "coder" "B" fC s ∧ Ch b A s ∧ StaticIs s "java/lang/String" "COMPACT_STRINGS" "Z" (.int z) ∧ ¬ z = 0 ∧ 0 < A.slots.size ∧ A.slots.size ≤ 536870912 ∧ ∀ i, i < A.slots.size → ¬ 255 < cv A i
def E (a : Addr) (D : Cell) (fV fC : Field) (A : Cell) (r : Option Value) (s u : State) : Prop := Got a D fV fC A 0 A.slots.size r s u
/-- new String(chars), not empty, no char above 255: a Latin-1 String of their low bytes -/
theorem law (l : Launch) (a : Addr) (D : Cell) (fV fC : Field) (b : Addr) (A : Cell) (z : Int32) : Law l yN 2 1 3 52 yB 2 none site (P a D fV fC b A z) (E a D fV fC A) [⟨a, fC.slot⟩, ⟨a, fV.slot⟩] 1 A.slots.size := by
  refine Law.of_walk (plainFor_of_name (by decide +kernel)) (by decide +kernel) (by decide +kernel) (by decide) (fun _ _ h => by rw [h.1]; rfl) (fun _ U U' hal hh h => ⟨h.1, h.2.1.mv hal hh, h.2.2.1.al hal, h.2.2.2.1.al hal, h.2.2.2.2.1.mv hal hh, h.2.2.2.2.2.1.there hal hh, h.2.2.2.2.2.2⟩) (fun r U U' V V' h1 hal h2 h => Got.mv r U U' V V' h1 hal h2 h) ?_
  intro p e s m args below meth c s₁ X0 hexec hbytes hml hret hlk hnm hown hh0 W hP
  obtain ⟨rfl, hB, f1, f2, hA, s1, hz, l0, l2, hp⟩ := hP
  have c1 : Steps p.tables e below (s₁.setTop (entryFrame m #[.ref a, .ref b] 2)) (s₁.setTop (mkF m 0 #[.val (.ref a), .val (.ref b)] [])) := entry rfl
  have c2 : Steps p.tables e below (s₁.setTop (entryFrame m #[.ref a, .ref b] 2)) (s₁.setTop (mkF m 6 #[.val (.ref a), .val (.ref b)] [.null, .int (Int32.ofNat A.slots.size), .int 0, .ref b, .ref a])) := c1.trans (by
    refine XS.aloadN X0.here hexec rfl (hb hbytes d0) rfl rfl ?_
    refine XS.aloadN X0.here hexec rfl (hb hbytes d1) rfl rfl ?_
    refine iconstV X0.here hexec rfl 0 (hb hbytes d2) (by decide) ?_
    refine XS.aloadN X0.here hexec rfl (hb hbytes d3) rfl rfl ?_
    refine X0.alen hexec (hA.1.mv X0.warmed.alike hh0) rfl rfl (hb hbytes d4) ?_
    refine XS.aconstNull X0.here hexec rfl (hb hbytes d5) ?_
    exact Steps.refl _)
  obtain ⟨v3, T3, X3, E3, g3⟩ := X0.callN hexec (New4.law l a D fV fC b A z 0 A.slots.size) rfl hown (wks W (initW "java/lang/String" 27 New4.yN)) (W New4.tab (by simp only [site, List.mem_cons, List.mem_append, true_or, or_true])) (W := 0) (Nat.le_of_ble_eq_true rfl) (Nat.le_of_ble_eq_true rfl) (Nat.le_refl _) (by show 0 + A.slots.size ≤ A.slots.size; omega) (g := (mkF m 6 #[.val (.ref a), .val (.ref b)] [.null, .int (Int32.ofNat A.slots.size), .int (Int32.ofNat 0), .ref b, .ref a])) rfl (by rw [hml]; rfl) c2 (argsL := [.ref b, .int (Int32.ofNat 0), .int (Int32.ofNat A.slots.size), .null]) (rest := []) rfl rfl (by show 2 * 0 + 0 ≤ _; decide) (hb hbytes d6) (⟨rfl, hB.mv X0.warmed.alike hh0, f1.al X0.warmed.alike, f2.al X0.warmed.alike, hA.mv X0.warmed.alike hh0, s1.there X0.warmed.alike hh0, hz, l0, by omega, l2, fun i hi => by rw [Nat.zero_add]; exact hp i hi⟩)
  have e0 := Got.mv _ s₁ s _ _ hh0.symm (Vm.Alike.refl _) rfl E3
  obtain rfl := e0.1
  have c4 : Steps p.tables e below (s₁.setTop (entryFrame m #[.ref a, .ref b] 2)) (T3.setTop (mkF m 9 #[.val (.ref a), .val (.ref b)] [])) := g3
  exact ⟨T3, none, _, _, _, X3, by simp, rfl, by omega, (fun _ => rfl), e0, fun fs hl => c4.trans (X3.returnOut hexec hret (hb hbytes d9) hl)⟩
theorem pays {l : Launch} {R : Room} {p : Program} {e : Env} {below : List Frame} {s : State} {sargs : Array Value} {len W : Nat} (a : Addr) (D : Cell) (fV fC : Field) (b : Addr) (A : Cell) (z : Int32) (htab : tab.before sargs s = true) (hfr : 4 ≤ R.frames) (hlo : W + 65 ≤ R.locals) :
    Back l R p e below s sargs yN len W (fun A₁ a₁ => A₁.cells + 1 ≤ R.cells ∧ A₁.slots + A.slots.size ≤ R.slots ∧ P a D fV fC b A z a₁ A₁.U) (fun A₁ _ v₁ B₁ => E a D fV fC A v₁ A₁.U B₁.U ∧ B₁.locs = A₁.locs ++ [⟨a, fC.slot⟩, ⟨a, fV.slot⟩] ∧ B₁.cells = A₁.cells + 1 ∧ B₁.slots = A₁.slots + A.slots.size) :=
  (law l a D fV fC b A z).pays htab hfr (by omega)
end New1
/-- the byte, read back as charAt reads it, is the char -/
theorem lo8_mask {x : Int32} (h0 : ¬ x < 0) (h1 : ¬ 255 < x) : lo8 x &&& 255 = x := by
  have t : ∀ k : Fin 256, lo8 (Int32.ofNat k.val) &&& 255 = Int32.ofNat k.val := by decide +kernel
  rw [Int32.lt_iff_toInt_lt] at h0 h1
  have e0 : (0 : Int32).toInt = 0 := rfl
  have e1 : (255 : Int32).toInt = 255 := rfl
  obtain ⟨k, hk⟩ : ∃ k : Nat, x.toInt = k := ⟨x.toInt.toNat, by omega⟩
  have hx : x = Int32.ofNat k := Int32.toInt_inj.mp (by rw [hk, Int32.toInt_ofNat_small (by omega)])
  rw [hx]
  exact t ⟨k, by omega⟩
end StrChars
namespace StrChars.Road
open Jvm Sem ClassFile Op Lib Jvm.Stand Jvm.Free Jvm.Free.XT
open Jvm.Lib.Cold (StaticIs)
abbrev ST : String := "java/lang/String"
/-- every table word that New1's law asks, flat -/
abbrev words : List Jvm.Cond := [.code New1.yN New1.yB 2 none, .initialized ST, .methodLink ST 27 New4.yN, .instanceMethod New4.yN,
  .code New4.yN New4.yB 6 none, .fieldLink ST 38 ST "COMPACT_STRINGS" "Z", .laysFinal ST ST "value" "[B", .fieldLink ST 9 ST "value" "[B", .laysFinal ST ST "coder" "B", .fieldLink ST 15 ST "coder" "B",
  .methodLink ST 1 Lib.objectInit, .instanceMethod Lib.objectInit, .code Lib.objectInit ⟨#[0xb1]⟩ 1 none, .methodLink ST 177 Cmp3.yN, .static Cmp3.yN, .methodLink ST 47 CodL.yN, .static CodL.yN,
  .code Cmp3.yN Cmp3.yB 6 (some (.array .byte)), .initialized U16, .arrayClass .byte, .methodLink U16 115 Cmp5.yN, .static Cmp5.yN, .code Cmp5.yN Cmp5.yB 7 (some .int), .code CodL.yN CodL.yB 2 (some .byte)]
theorem tab_of {a : Array Value} {s : State} (h : ∀ w ∈ words, w.before a s = true) : New1.tab.before a s = true := by
  have h5 : Cmp5.tab.before a s = true := unparts (wk h (.code Cmp5.yN Cmp5.yB 7 (some .int))) (wks h (.initialized Cmp5.yN.cls :: Cmp5.site))
  have hc : CodL.tab.before a s = true := unparts (wk h (.code CodL.yN CodL.yB 2 (some .byte))) (wks h (.initialized CodL.yN.cls :: CodL.site))
  have q5 : ∀ w ∈ Cmp5.tab :: words, w.before a s = true := fun w hw => (List.mem_cons.mp hw).elim (fun e => e ▸ h5) (h w)
  have h3 : Cmp3.tab.before a s = true := unparts (wk q5 (.code Cmp3.yN Cmp3.yB 6 (some (.array .byte)))) (wks q5 (.initialized Cmp3.yN.cls :: Cmp3.site))
  have q3 : ∀ w ∈ Cmp3.tab :: CodL.tab :: words, w.before a s = true := fun w hw => (List.mem_cons.mp hw).elim (fun e => e ▸ h3) fun hw => (List.mem_cons.mp hw).elim (fun e => e ▸ hc) (h w)
  have h4 : New4.tab.before a s = true := unparts (wk q3 (.code New4.yN New4.yB 6 none)) (wks q3 (.initialized New4.yN.cls :: New4.site))
  have q4 : ∀ w ∈ New4.tab :: words, w.before a s = true := fun w hw => (List.mem_cons.mp hw).elim (fun e => e ▸ h4) (h w)
  exact unparts (wk q4 (.code New1.yN New1.yB 2 none)) (wks q4 (.initialized New1.yN.cls :: New1.site))
/-- the words ride from the start Z to the walk's own state -/
theorem moved {Z s : State} {a0 args : Array Value} (hZ : Z.Warmed39 s.vm) (hw : ∀ d ∈ words, d.before a0 Z = true) : ∀ d ∈ words, d.before args s = true := fun d hd => by
  have q := hw d hd
  have t : ∀ d ∈ words, d = .arrayClass .byte ∨ (d.onTables && d.keepsFace) = true := by decide +kernel
  rcases t d hd with rfl | t
  · exact RoadKit.mvA hZ q
  · exact RoadKit.mv hZ q t
/-- WHAT COMES BACK, over the tables of the start Z: h the heap at the call, h' behind it -/
def Q (Z : State) (x : Addr) (A : Cell) (h : Heap) (v : Option Value) (h' : Heap) (L : List Loc) : Prop := v = none ∧ (∀ y ∈ L, y.base = x) ∧ RoadKit.Keep h h' [x] ∧ h'.size = h.size + 1 ∧ RoadKit.Exa Z h' x ST ∧ RoadKit.Fld Z h' x ST "value" "[B" (.ref h.size) ∧ RoadKit.Fld Z h' x ST "coder" "B" (.int 0) ∧
  (∃ V : Cell, RoadKit.Arr Z h' h.size V .byte ∧ V.vm = .none ∧ Z.vm.findClass "[B" = some V.cls ∧ V.slots.size = A.slots.size ∧ ∀ j, j < A.slots.size → V.slots[j]? = some (.int (lo8 (cv A j)))) ∧
  ∀ (O n d : String) (w : Value), RoadKit.Fld Z h x O n d w → RoadKit.slotOf Z O n d ≠ RoadKit.slotOf Z ST "value" "[B" → RoadKit.slotOf Z O n d ≠ RoadKit.slotOf Z ST "coder" "B" → RoadKit.Fld Z h' x O n d w
/-- **new String(chars) AT A CALL, IN THE ROAD'S FORM**: for specialBack behind newO: x the fresh String, b the char[] with the cell A -/
theorem back {p : Program} {l : Launch} {e : Env} {R : Room} {s : State} {args : Array Value} {below : List Frame} {len W : Nat} {Z : State} {a0 : Array Value} {h : Heap} (hZ : Z.Warmed39 s.vm) (hw : ∀ d ∈ words, d.before a0 Z = true) {kI : Nat} (wi : (Jvm.Cond.instantiable ST kI).before a0 Z = true)
    {x b : Addr} {A : Cell} {z : Int32} {v0 c0 : Value} (E : RoadKit.Exa Z h x ST) (V : RoadKit.Fld Z h x ST "value" "[B" v0) (C : RoadKit.Fld Z h x ST "coder" "B" c0) (K : RoadKit.Arr Z h b A .char) (hty : Typed .char A) (S : RoadKit.Sta Z h ST "COMPACT_STRINGS" "Z" (.int z)) (hz : ¬ z = 0)
    (l0 : 0 < A.slots.size) (l2 : A.slots.size ≤ 536870912) (hp : ∀ i, i < A.slots.size → ¬ 255 < cv A i) (hfr : 4 ≤ R.frames) (hlo : W + 65 ≤ R.locals) :
    Back l R p e below s args New1.yN len W (fun P a => a = #[.ref x, .ref b] ∧ P.U.heap = h ∧ P.cells + 1 ≤ R.cells ∧ P.slots + A.slots.size ≤ R.slots)
      (fun P _ v B => ∃ L, Q Z x A h v B.U.heap L ∧ B.locs = P.locs ++ L ∧ B.cells = P.cells + 1 ∧ B.slots = P.slots + A.slots.size) := by
  intro m meth c P g ig mk a X hg hsize hdg hW hn hp'
  obtain ⟨rfl, rfl, r1, r2⟩ := hp'
  have al : Z.vm.Alike P.U.vm := hZ.alike.trans X.warmed.alike
  obtain ⟨D, cfV, kV, iV, fV, hD, gV, stV, knV, obV, asV, slV⟩ := id V
  obtain ⟨D', cfC, kC, iC, fC, hD', gC, stC, -, -, asC, slC⟩ := id C
  cases hD.symm.trans hD'
  obtain ⟨D2, kD, e1, e2, e3, e4, e5⟩ := id E
  cases hD.symm.trans e1
  obtain ⟨c2, k2, i1, i2, i3, -⟩ := Cond.instantiable_spec wi
  cases e2.symm.trans i1
  cases e3.symm.trans i2
  obtain ⟨kU, u1, u2⟩ := al.2.2 _ _ e3
  have hB : Blank ST x D P.U := ⟨hD, ⟨knV, fun q hq => by rw [hq] at obV; cases obV⟩, by rw [al.findClass]; exact e2, kU, u1, by rw [u2]; exact i3, by rw [u2]; exact e5 i3⟩
  have F1 : Found ST "value" "[B" fV P.U := ⟨SBG.found_only al ⟨cfV, kV, iV, gV⟩, stV⟩
  have F2 : Found ST "coder" "B" fC P.U := ⟨SBG.found_only al ⟨cfC, kC, iC, gC⟩, stC⟩
  have hA : Ch b A P.U := ⟨⟨K.1, State.isArrayOf_alike al K.2.1, K.2.2, by omega⟩, hty⟩
  have hS : StaticIs P.U ST "COMPACT_STRINGS" "Z" (.int z) := by
    obtain ⟨cfS, iS, kS, fS, st, cS, t1, t2, t3, t4, t5, t6, t7⟩ := S
    exact StaticIs.there (s := { Z with heap := P.U.heap }) ⟨cfS, iS, kS, fS, st, cS, t1, t2, t3, t4, t5, (fun q => by rw [q] at t6; cases t6), t7⟩ al rfl
  obtain ⟨v, B, X', ⟨⟨hv, E', V', q1, q2, q3, q4, q5, q6, q7, q8, q9, q10, q11⟩, hl, hc, hs⟩, st⟩ := New1.pays x D fV fC b A z (tab_of (moved hZ hw)) hfr hlo m meth c P g ig mk _ X hg hsize hdg hW hn ⟨r1, r2, rfl, hB, F1, F2, hA, hS, hz, l0, l2, hp⟩
  have al' : Z.vm.Alike B.U.vm := hZ.alike.trans X'.warmed.alike
  have hsz : E'.slots.size = D.slots.size := by
    obtain ⟨-, -, -, kB, w1, w2, w3⟩ := q1
    obtain ⟨kB', y1, y2⟩ := al'.2.2 _ _ e3
    rw [q2.2.1] at w1
    cases w1.symm.trans y1
    rw [w3, e5 i3, y2]
  refine ⟨v, B, X', ⟨_, ⟨hv, ?_, ⟨by omega, fun y cy hy hn' => q10 y cy (by simpa using hn') hy, fun y cy hy => ?_⟩, q11, ⟨E', _, q1.1, by rw [q2.2.1]; exact e2, by rw [q2.2.1]; exact e3, by rw [q2.1]; exact obV, fun _ => by rw [hsz]; exact e5 i3⟩,
    ⟨E', cfV, kV, iV, fV, q1.1, gV, stV, by rw [q2.1]; exact knV, by rw [q2.1]; exact obV, by rw [q2.2.1]; exact asV, q3⟩, ⟨E', cfC, kC, iC, fC, q1.1, gC, stC, by rw [q2.1]; exact knV, by rw [q2.1]; exact obV, by rw [q2.2.1]; exact asC, q4⟩,
    ⟨V', ⟨q5.1, State.isArrayOf_alike al'.symm q5.2.1, q5.2.2.1⟩, q6, by rw [← al'.findClass]; exact q7, q8, fun j hj => by have := q9 j hj; rwa [Nat.zero_add] at this⟩, fun O n d w F n1 n2 => ?_⟩, hl, hc, hs⟩, st⟩
  · intro y hy
    simp only [List.mem_cons, List.not_mem_nil, or_false] at hy
    rcases hy with rfl | rfl <;> rfl
  · by_cases q : y = x
    · subst q
      cases hD.symm.trans hy
      exact ⟨E', q1.1, q2.2.1, q2.1, hsz⟩
    · exact ⟨cy, q10 y cy q hy, rfl, rfl, rfl⟩
  · obtain ⟨D3, cf, k, i, f, g1, g2, g3, g4, g5, g6, g7⟩ := F
    cases hD.symm.trans g1
    simp only [RoadKit.slotOf, g2, gV, gC, Option.map_some, Option.getD_some] at n1 n2
    exact ⟨E', cf, k, i, f, q1.1, g2, g3, by rw [q2.1]; exact g4, by rw [q2.1]; exact g5, by rw [q2.2.1]; exact g6, by rw [q2.2.2 f.slot (by simp [n1, n2])]; exact g7⟩
end StrChars.Road
namespace StrChars.Road
open Jvm Sem ClassFile Op Lib Jvm.Stand Jvm.Free Jvm.Free.XT
/-- WHAT COMES BACK, the byte[] as a list of values -/
def QA (Z : State) (x : Addr) (zn : Int32) (cs : List Int32) (h : Heap) (v : Option Value) (h' : Heap) (L : List Loc) : Prop := v = none ∧ (∀ y ∈ L, y.base = x) ∧ RoadKit.Keep h h' [x] ∧ h'.size = h.size + 1 ∧ RoadKit.Exa Z h' x ST ∧ RoadKit.Fld Z h' x ST "value" "[B" (.ref h.size) ∧ RoadKit.Fld Z h' x ST "coder" "B" (.int 0) ∧
  (∃ kb, Z.vm.findClass "[B" = some kb ∧ RoadKit.Arv Z h' h.size kb .byte zn (cs.map fun c => .int (lo8 c)) (.int 0)) ∧
  ∀ (O n d : String) (w : Value), RoadKit.Fld Z h x O n d w → RoadKit.slotOf Z O n d ≠ RoadKit.slotOf Z ST "value" "[B" → RoadKit.slotOf Z O n d ≠ RoadKit.slotOf Z ST "coder" "B" → RoadKit.Fld Z h' x O n d w
/-- **new String(chars) AT A CALL, THE ARRAYS AS LISTS**: the char[] at b holds cs, not empty, no char above 255 -/
theorem backArv {p : Program} {l : Launch} {e : Env} {R : Room} {s : State} {args : Array Value} {below : List Frame} {len W : Nat} {Z : State} {a0 : Array Value} {h : Heap} (hZ : Z.Warmed39 s.vm) (hw : ∀ d ∈ words, d.before a0 Z = true) {kI : Nat} (wi : (Jvm.Cond.instantiable ST kI).before a0 Z = true)
    {x b : Addr} {k : ClassId} {zn z : Int32} {cs : List Int32} {dv v0 c0 : Value} (E : RoadKit.Exa Z h x ST) (V : RoadKit.Fld Z h x ST "value" "[B" v0) (C : RoadKit.Fld Z h x ST "coder" "B" c0) (K : RoadKit.Arv Z h b k .char zn (cs.map Value.int) dv) (S : RoadKit.Sta Z h ST "COMPACT_STRINGS" "Z" (.int z)) (hz : ¬ z = 0)
    (hlen : zn.toNatClampNeg = cs.length) (h0 : 0 < cs.length) (hbig : cs.length ≤ 536870912) (hall : ∀ c ∈ cs, ¬ 255 < c) (hfr : 4 ≤ R.frames) (hlo : W + 65 ≤ R.locals) :
    Back l R p e below s args New1.yN len W (fun P a => a = #[.ref x, .ref b] ∧ P.U.heap = h ∧ P.cells + 1 ≤ R.cells ∧ P.slots + cs.length ≤ R.slots)
      (fun P _ v B => ∃ L, QA Z x zn cs h v B.U.heap L ∧ B.locs = P.locs ++ L ∧ B.cells = P.cells + 1 ∧ B.slots = P.slots + cs.length) := by
  obtain ⟨A, K1, K2, K3, K4, K5, K6⟩ := K
  have e : A.slots.size = cs.length := K3.trans hlen
  have hat : ∀ (i : Nat) (hi : i < cs.length), A.slots[i]? = some (.int cs[i]) := fun i hi => by rw [K5 i (by omega)]; simp [List.getD_eq_getElem?_getD, hi]
  have hcv : ∀ (i : Nat) (hi : i < cs.length), cv A i = cs[i] := fun i hi => by unfold cv; rw [hat i hi]
  have hty : Typed .char A := fun i v hv => by
    have hi : i < A.slots.size := (Array.getElem?_eq_some_iff.mp hv).1
    have q := K5 i hi
    rw [hv] at q
    rw [Option.some.inj q]
    exact K6 i hi
  refine Back.mono (back hZ hw wi E V C K1 hty S hz (by omega) (by omega) (fun i hi => by rw [hcv i (by omega)]; exact hall _ (List.getElem_mem _)) hfr hlo) (fun P a hp => ⟨hp.1, hp.2.1, hp.2.2.1, by rw [e]; exact hp.2.2.2⟩) (fun P a v B hp hq => ?_)
  obtain ⟨L, ⟨q1, q2, q3, q4, q5, q6, q7, ⟨V', v1, v2, v3, v4, v5⟩, q9⟩, hl, hc, hs⟩ := hq
  refine ⟨L, ⟨q1, q2, q3, q4, q5, q6, q7, ⟨V'.cls, v3, V', v1, rfl, by rw [v4, e, hlen], K4, fun i hi => ?_, fun i hi => ?_⟩, q9⟩, hl, hc, by rw [hs, e]⟩
  · have hi' : i < cs.length := by omega
    rw [v5 i (by omega), hcv i hi']; simp [List.getD_eq_getElem?_getD, hi']
  · have hi' : i < cs.length := by omega
    simp only [List.getD_eq_getElem?_getD, List.getElem?_map, List.getElem?_eq_getElem hi', Option.map_some, Option.getD_some]
    exact fits_lo8 _
end StrChars.Road
namespace StrChars.Road
open Jvm Sem ClassFile Op Lib Jvm.Stand Jvm.Free Jvm.Free.XT
/-- WHAT COMES BACK, in the writer's own shape -/
def QV (Z : State) (x : Addr) (N : Int32) (bs : List Int32) (h : Heap) (n0 : Nat) (v : Option Value) (h' : Heap) (L : List Loc) : Prop := v = none ∧ RoadKit.Fr n0 L ∧ RoadKit.Keep h h' [x] ∧ RoadKit.Exa Z h' x ST ∧ RoadKit.Fld Z h' x ST "coder" "B" (.int 0) ∧
  ∃ (t : Addr) (kb : ClassId), n0 ≤ t ∧ h.size ≤ t ∧ ¬ t = x ∧ RoadKit.Fld Z h' x ST "value" "[B" (.ref t) ∧ RoadKit.Arv Z h' t kb .byte N (bs.map Value.int) (.int 0)
/-- **new String(chars) AT A CALL, FOR THE WRITER**: a char[] of n known ints, each 0 to 255 -/
theorem backV {p : Program} {l : Launch} {e : Env} {R : Room} {s : State} {args : Array Value} {below : List Frame} {len W : Nat} {Z : State} {a0 : Array Value} {h : Heap} (hZ : Z.Warmed39 s.vm) (hw : ∀ d ∈ words, d.before a0 Z = true) {kI : Nat} (wi : (Jvm.Cond.instantiable ST kI).before a0 Z = true)
    {x b : Addr} {kC : ClassId} {cs bs : List Int32} {d v0 c0 : Value} {z N : Int32} {n n0 : Nat} (hx0 : n0 ≤ x) (hh0 : n0 ≤ h.size) (E : RoadKit.Exa Z h x ST) (V : RoadKit.Fld Z h x ST "value" "[B" v0) (C : RoadKit.Fld Z h x ST "coder" "B" c0) (K : RoadKit.Arv Z h b kC .char N (cs.map Value.int) d) (S : RoadKit.Sta Z h ST "COMPACT_STRINGS" "Z" (.int z)) (hz : ¬ z = 0)
    (hn : cs.length = n) (hN : N = Int32.ofNat n) (l0 : 0 < n) (l2 : n ≤ 4000) (hp : ∀ c ∈ cs, ¬ c < 0 ∧ ¬ (255 : Int32) < c) (hb : bs = cs.map (fun c => c.toInt8.toInt32)) (hfr : 4 ≤ R.frames) (hlo : W + 65 ≤ R.locals) :
    Back l R p e below s args (⟨"java/lang/String", "<init>", "([C)V"⟩ : MethodName) len W (fun P a => a = #[.ref x, .ref b] ∧ P.U.heap = h ∧ P.cells + 1 ≤ R.cells ∧ P.slots + n ≤ R.slots)
      (fun P _ v B => ∃ L, QV Z x N bs h n0 v B.U.heap L ∧ B.locs = P.locs ++ L ∧ B.cells = P.cells + 1 ∧ B.slots = P.slots + n) := by
  subst hn hN hb
  refine Back.mono (backArv hZ hw wi E V C K S hz (n32 (by omega)) l0 (by omega) (fun c hc => (hp c hc).2) hfr hlo) (fun P a hp => hp) (fun P a v B hp hq => ?_)
  obtain ⟨L, ⟨q1, q2, q3, q4, q5, q6, q7, ⟨kb, v1, v2⟩, q9⟩, hl, hc, hs⟩ := hq
  exact ⟨L, ⟨q1, fun y hy => by rw [q2 y hy]; exact hx0, q3, q5, q7, h.size, kb, hh0, Nat.le_refl _, Nat.ne_of_gt E.lt, q6, by rw [List.map_map]; exact v2⟩, hl, hc, hs⟩
end StrChars.Road
namespace StrChars
open Jvm Sem ClassFile Op Lib Jvm.Stand Jvm.Free.XT Jvm.Free.ALB Jvm.Free.JM Jvm.Free
open Jvm.Lib.Cold (StaticIs)
def hi8 (x : Int32) : Int32 := lo8 (x >>> ((8 : Int32) &&& 31))
/-- what StringUTF16.getChar makes of two bytes -/
def pairCh (u v : Int32) : Int32 := (((u &&& 255) <<< ((0 : Int32) &&& 31)) ||| ((v &&& 255) <<< ((8 : Int32) &&& 31))).toUInt32.toUInt16.toUInt32.toInt32
theorem shr0 (c : Int32) : c >>> ((0 : Int32) &&& 31) = c := by
  have e : ((0 : Int32) &&& 31) = 0 := by decide
  rw [e]
  apply Int32.toBitVec_inj.mp
  rw [Int32.toBitVec_shiftRight]
  have e1 : ((0 : Int32).toBitVec.smod 32) = 0#32 := by decide
  rw [e1, BitVec.sshiftRight_eq']
  exact BitVec.sshiftRight_zero
theorem lo8_and (x : Int32) : (lo8 x &&& 255).toBitVec.toNat = x.toBitVec.toNat % 256 := by
  have h : (lo8 x).toBitVec = (x.toBitVec.signExtend 8).signExtend 32 := by rw [lo8, Int8.toBitVec_toInt32, Int32.toBitVec_toInt8]
  rw [Int32.toBitVec_and, BitVec.toNat_and, h]
  have e : ((x.toBitVec.signExtend 8).signExtend 32).toNat % 256 = x.toBitVec.toNat % 256 := by
    rw [BitVec.toNat_signExtend]
    have hlt := x.toBitVec.isLt
    simp only [BitVec.toNat_setWidth, BitVec.toNat_signExtend]
    split <;> split <;> omega
  rw [← e]
  exact Nat.and_two_pow_sub_one_eq_mod _ 8
theorem pair_says {c : Int32} (h0 : ¬ c < 0) (h1 : ¬ 65535 < c) : pairCh (lo8 c) (hi8 c) = c := by
  rw [Int32.lt_iff_toInt_lt] at h0 h1
  have e0 : (0 : Int32).toInt = 0 := rfl
  have e1 : (65535 : Int32).toInt = 65535 := rfl
  have hc : c.toInt = c.toBitVec.toNat := by
    have := c.toBitVec.isLt
    have e : c.toInt = c.toBitVec.toInt := rfl
    rw [e] at h0 h1
    rw [e]
    rw [BitVec.toInt_eq_toNat_cond] at h0 h1 ⊢
    split at h0 <;> split <;> omega
  have hn : c.toBitVec.toNat < 65536 := by omega
  have a1 := lo8_and c
  have a2 : (hi8 c &&& 255).toBitVec.toNat = c.toBitVec.toNat / 256 := by
    rw [hi8, lo8_and]
    have e : ((8 : Int32) &&& 31) = 8 := by decide
    rw [e, Int32.toBitVec_shiftRight]
    have e2 : ((8 : Int32).toBitVec.smod 32) = 8#32 := by decide
    rw [e2, BitVec.sshiftRight_eq', BitVec.toNat_sshiftRight_of_msb_false (by rw [BitVec.msb_eq_false_iff_two_mul_lt]; omega)]
    show c.toBitVec.toNat >>> 8 % 256 = _
    rw [Nat.shiftRight_eq_div_pow]
    omega
  unfold pairCh
  apply Int32.toBitVec_inj.mp
  apply BitVec.eq_of_toNat_eq
  have f0 : ((0 : Int32) &&& 31) = 0 := by decide
  have f8 : ((8 : Int32) &&& 31) = 8 := by decide
  rw [f0, f8]
  have g : (((lo8 c &&& 255) <<< (0 : Int32)) ||| ((hi8 c &&& 255) <<< (8 : Int32))).toBitVec.toNat = c.toBitVec.toNat := by
    rw [Int32.toBitVec_or, Int32.toBitVec_shiftLeft, Int32.toBitVec_shiftLeft]
    have s0 : ((0 : Int32).toBitVec.smod 32) = 0#32 := by decide
    have s8 : ((8 : Int32).toBitVec.smod 32) = 8#32 := by decide
    rw [s0, s8, BitVec.toNat_or]
    simp only [BitVec.shiftLeft_eq', BitVec.toNat_shiftLeft, a1, a2]
    show (c.toBitVec.toNat % 256) <<< 0 % 2 ^ 32 ||| (c.toBitVec.toNat / 256) <<< 8 % 2 ^ 32 = _
    rw [Nat.shiftLeft_zero, Nat.mod_eq_of_lt (show c.toBitVec.toNat % 256 < 2 ^ 32 by omega), Nat.mod_eq_of_lt (show (c.toBitVec.toNat / 256) <<< 8 < 2 ^ 32 by rw [Nat.shiftLeft_eq]; omega), Nat.or_comm, ← Nat.shiftLeft_add_eq_or_of_lt (by omega), Nat.shiftLeft_eq]
    omega
  show BitVec.toNat (((((lo8 c &&& 255) <<< (0 : Int32)) ||| ((hi8 c &&& 255) <<< (8 : Int32))).toBitVec.setWidth 16).setWidth 32) = _
  rw [BitVec.toNat_setWidth, BitVec.toNat_setWidth, g]
  omega
end StrChars
namespace StrChars
open Jvm Sem ClassFile Op Lib Jvm.Stand Jvm.Free.XT Jvm.Free.ALB Jvm.Free.JM Jvm.Free
open Jvm.Lib.Cold (StaticIs)
theorem shr1 {n : Nat} (h : 2 * n < 2 ^ 31) : Int32.ofNat (2 * n) >>> ((1 : Int32) &&& 31) = Int32.ofNat n := by
  have e : ((1 : Int32) &&& 31) = 1 := by decide
  rw [e]
  apply Int32.toBitVec_inj.mp
  rw [Int32.toBitVec_shiftRight]
  have e1 : ((1 : Int32).toBitVec.smod 32) = 1#32 := by decide
  have hm : (BitVec.ofNat 32 (2 * n)).toNat = 2 * n := by rw [BitVec.toNat_ofNat, Nat.mod_eq_of_lt (by omega)]
  rw [e1, BitVec.sshiftRight_eq']
  apply BitVec.eq_of_toNat_eq
  show ((BitVec.ofNat 32 (2 * n)).sshiftRight 1).toNat = (BitVec.ofNat 32 n).toNat
  rw [BitVec.toNat_sshiftRight_of_msb_false (by rw [BitVec.msb_eq_false_iff_two_mul_lt, hm]; omega), hm, BitVec.toNat_ofNat, Nat.shiftRight_eq_div_pow]
  omega
/-- charAt's cast of a byte read back -/
def chr8 (u : Int32) : Int32 := (u &&& 255).toUInt32.toUInt16.toUInt32.toInt32
theorem chr8_lo8 {c : Int32} (h0 : ¬ c < 0) (h1 : ¬ 255 < c) : chr8 (lo8 c) = c := by
  have t : ∀ k : Fin 256, (Int32.ofNat k.val).toUInt32.toUInt16.toUInt32.toInt32 = Int32.ofNat k.val := by decide +kernel
  unfold chr8
  rw [lo8_mask h0 h1]
  rw [Int32.lt_iff_toInt_lt] at h0 h1
  have e0 : (0 : Int32).toInt = 0 := rfl
  have e1 : (255 : Int32).toInt = 255 := rfl
  obtain ⟨k, hk⟩ : ∃ k : Nat, c.toInt = k := ⟨c.toInt.toNat, by omega⟩
  have hx : c = Int32.ofNat k := Int32.toInt_inj.mp (by rw [hk, Int32.toInt_ofNat_small (by omega)])
  rw [hx]
  exact t ⟨k, by omega⟩
theorem narrow_ch {c : Int32} (h0 : ¬ c < 0) (h1 : ¬ 65535 < c) : narrow .char (.int c) = .int c := by
  have q : narrow .char (.int (pairCh (lo8 c) (hi8 c))) = .int (pairCh (lo8 c) (hi8 c)) := narrow_c _
  rwa [pair_says h0 h1] at q
/-- the array's cell V codes the n chars f 0 .. f (n - 1) by the coder cd, as the JDK does: coder 1 just where some char is above 255 -/
def Cod (cd : Int32) (n : Nat) (f : Nat → Int32) (V : Cell) : Prop := (cd = 0 ∧ V.slots.size = n ∧ ∀ j, j < n → V.slots[j]? = some (.int (lo8 (f j))) ∧ ¬ 255 < f j) ∨ (cd = 1 ∧ V.slots.size = 2 * n ∧ (∀ j, j < n → V.slots[2 * j]? = some (.int (lo8 (f j))) ∧ V.slots[2 * j + 1]? = some (.int (hi8 (f j)))) ∧ ∃ j, j < n ∧ 255 < f j)
theorem Cod.cd {cd : Int32} {n : Nat} {f : Nat → Int32} {V : Cell} (h : Cod cd n f V) : cd = 0 ∨ cd = 1 := h.imp (fun q => q.1) fun q => q.1
theorem Cod.len {cd : Int32} {n : Nat} {f : Nat → Int32} {V : Cell} (h : Cod cd n f V) (hs : V.slots.size < 2 ^ 31) : Int32.ofNat V.slots.size >>> (cd &&& 31) = Int32.ofNat n := by
  rcases h with ⟨rfl, h, -⟩ | ⟨rfl, h, -⟩
  · rw [shr0, h]
  · rw [h, shr1 (by omega)]
/-- **x is a String of the n chars f 0 .. f (n - 1)**, Latin-1 or UTF-16; its array at t has the cell V -/
def Txt (x t : Addr) (V : Cell) (cd : Int32) (n : Nat) (f : Nat → Int32) (U : State) : Prop := Exact "java/lang/String" x U ∧ Has x "java/lang/String" "value" "[B" (.ref t) U ∧ Has x "java/lang/String" "coder" "B" (.int cd) U ∧ XT.Arr .byte t V U ∧ Cod cd n f V ∧ ∀ j, j < n → ¬ f j < 0 ∧ ¬ 65535 < f j
theorem Txt.mv {x t : Addr} {V : Cell} {cd : Int32} {n : Nat} {f : Nat → Int32} {U U' : State} (h : Txt x t V cd n f U) (hal : U.vm.Alike U'.vm) (hh : U'.heap = U.heap) : Txt x t V cd n f U' := ⟨h.1.mv hal hh, h.2.1.mv hal hh, h.2.2.1.mv hal hh, h.2.2.2.1.mv hal hh, h.2.2.2.2⟩
namespace Cdr
def yN : MethodName := ⟨"java/lang/String", "coder", "()B"⟩
abbrev yB : ByteArray := jdk_42_method_152_code
theorem d0 : decode yB 0 = .ok (.getstatic 38, 3) := by decide +kernel
theorem d3 : decode yB 3 = .ok (.ifCond (.eq) 10, 3) := by decide +kernel
theorem d6 : decode yB 6 = .ok (.aload_n 0, 1) := by decide +kernel
theorem d7 : decode yB 7 = .ok (.getfield 15, 3) := by decide +kernel
theorem d10 : decode yB 10 = .ok (.goto 4, 3) := by decide +kernel
theorem d14 : decode yB 14 = .ok (.ireturn, 1) := by decide +kernel
def site : List Cond := [.fieldLink "java/lang/String" 38 "java/lang/String" "COMPACT_STRINGS" "Z", .fieldLink "java/lang/String" 15 "java/lang/String" "coder" "B"]
def tab : Cond := tabOf yN yB 1 (some .byte) site
def P (x : Addr) (cd z : Int32) (args : Array Value) (s : State) : Prop := args = #[.ref x] ∧ Has x "java/lang/String" "coder" "B" (.int cd) s ∧ (cd = 0 ∨ cd = 1) ∧ StaticIs s "java/lang/String" "COMPACT_STRINGS" "Z" (.int z) ∧ ¬ z = 0
def E (cd : Int32) (r : Option Value) (s u : State) : Prop := XT.PureE (some (.int cd)) r s u
theorem law (l : Launch) (x : Addr) (cd z : Int32) : Law l yN 1 0 0 0 yB 1 (some .byte) site (P x cd z) (E cd) [] 0 0 := by
  refine Law.of_walk (plainFor_of_name (by decide +kernel)) (by decide +kernel) (by decide +kernel) (by decide) (fun _ _ h => by rw [h.1]; rfl) (fun _ U U' hal hh h => ⟨h.1, h.2.1.mv hal hh, h.2.2.1, h.2.2.2.1.there hal hh, h.2.2.2.2⟩) (fun r U U' V V' h1 hal h2 h => XT.PureE.mv r U U' V V' h1 hal h2 h) ?_
  intro p e s m args below meth c s₁ X0 hexec hbytes hml hret hlk hnm hown hh0 W hP
  obtain ⟨rfl, hx, hc, s1, hz⟩ := hP
  have c1 : Steps p.tables e below (s₁.setTop (entryFrame m #[.ref x] 1)) (s₁.setTop (mkF m 0 #[.val (.ref x)] [])) := entry rfl
  obtain ⟨T2, X2, q2, st2⟩ := X0.sget hexec hown (wk W (.fieldLink "java/lang/String" 38 "java/lang/String" "COMPACT_STRINGS" "Z")) s1 (fun _ _ h => by rw [hh0]; exact h) (g := (mkF m 0 #[.val (.ref x)] [])) rfl (hb hbytes d0)
  have hh2 := q2.trans hh0
  have c3 : Steps p.tables e below (s₁.setTop (entryFrame m #[.ref x] 1)) (T2.setTop (mkF m 7 #[.val (.ref x)] [.ref x])) := (c1.trans (st2 _ (Steps.refl _))).trans (by
    refine XS.ifNo X2.here hexec rfl (hb hbytes d3) rfl (i0_eq_f hz) ?_
    refine XS.aloadN X2.here hexec rfl (hb hbytes d6) rfl rfl ?_
    exact Steps.refl _)
  obtain ⟨T4, X4, q4, st4⟩ := X2.hget hexec hown (wk W (.fieldLink "java/lang/String" 15 "java/lang/String" "coder" "B")) (hx.mv X2.warmed.alike hh2) (g := (mkF m 7 #[.val (.ref x)] [.ref x])) rfl (rest := []) rfl (hb hbytes d7)
  have c5 : Steps p.tables e below (s₁.setTop (entryFrame m #[.ref x] 1)) (T4.setTop (mkF m 14 #[.val (.ref x)] [.int cd])) := (c3.trans (st4 _ (Steps.refl _))).trans (by
    refine XS.goto X4.here hexec rfl (pc0 := 10) rfl (hb hbytes d10) (by decide) rfl ?_
    exact Steps.refl _)
  exact ⟨T4, some (.int cd), _, _, _, X4, rfl, rfl, rfl, (fun h => by cases h), ⟨rfl, q4.trans hh2⟩, fun fs hl => c5.trans (X4.ireturnOut hexec hret (by rcases hc with rfl | rfl <;> rfl) (Or.inr (Or.inr (Or.inl rfl))) (hb hbytes d14) hl)⟩
end Cdr
namespace Len
def yN : MethodName := ⟨"java/lang/String", "length", "()I"⟩
abbrev yB : ByteArray := jdk_42_method_54_code
theorem d0 : decode yB 0 = .ok (.aload_n 0, 1) := by decide +kernel
theorem d1 : decode yB 1 = .ok (.getfield 9, 3) := by decide +kernel
theorem d4 : decode yB 4 = .ok (.arraylength, 1) := by decide +kernel
theorem d5 : decode yB 5 = .ok (.aload_n 0, 1) := by decide +kernel
theorem d6 : decode yB 6 = .ok (.invokevirtual 335, 3) := by decide +kernel
theorem d9 : decode yB 9 = .ok (.ishr, 1) := by decide +kernel
theorem d10 : decode yB 10 = .ok (.ireturn, 1) := by decide +kernel
def site : List Cond := [.fieldLink "java/lang/String" 9 "java/lang/String" "value" "[B", Cdr.tab] ++ virtW "java/lang/String" 335 "java/lang/String" Cdr.yN Cdr.yN
def tab : Cond := tabOf yN yB 1 (some .int) site
def P (x t : Addr) (V : Cell) (cd : Int32) (n : Nat) (f : Nat → Int32) (z : Int32) (args : Array Value) (s : State) : Prop := args = #[.ref x] ∧ Txt x t V cd n f s ∧ StaticIs s "java/lang/String" "COMPACT_STRINGS" "Z" (.int z) ∧ ¬ z = 0
def E (n : Nat) (r : Option Value) (s u : State) : Prop := XT.PureE (some (.int (Int32.ofNat n))) r s u
/-- length() of a String of n chars, in either coding -/
theorem law (l : Launch) (x t : Addr) (V : Cell) (cd : Int32) (n : Nat) (f : Nat → Int32) (z : Int32) : Law l yN 1 0 1 13 yB 1 (some .int) site (P x t V cd n f z) (E n) [] 0 0 := by
  refine Law.of_walk (plainFor_of_name (by decide +kernel)) (by decide +kernel) (by decide +kernel) (by decide) (fun _ _ h => by rw [h.1]; rfl) (fun _ U U' hal hh h => ⟨h.1, h.2.1.mv hal hh, h.2.2.1.there hal hh, h.2.2.2⟩) (fun r U U' V V' h1 hal h2 h => XT.PureE.mv r U U' V V' h1 hal h2 h) ?_
  intro p e s m args below meth c s₁ X0 hexec hbytes hml hret hlk hnm hown hh0 W hP
  obtain ⟨rfl, hx, s1, hz⟩ := hP
  have v31 := hx.2.2.2.1.2.2.2
  have c1 : Steps p.tables e below (s₁.setTop (entryFrame m #[.ref x] 1)) (s₁.setTop (mkF m 1 #[.val (.ref x)] [.ref x])) := Steps.trans (entry rfl) (by
    show Steps p.tables e below (s₁.setTop (mkF m 0 #[.val (.ref x)] [])) _
    refine XS.aloadN X0.here hexec rfl (hb hbytes d0) rfl rfl ?_
    exact Steps.refl _)
  obtain ⟨T2, X2, q2, st2⟩ := X0.hget hexec hown (wk W (.fieldLink "java/lang/String" 9 "java/lang/String" "value" "[B")) (hx.mv X0.warmed.alike hh0).2.1 (g := (mkF m 1 #[.val (.ref x)] [.ref x])) rfl (rest := []) rfl (hb hbytes d1)
  have hh2 := q2.trans hh0
  have hx2 := hx.mv X2.warmed.alike hh2
  have c3 : Steps p.tables e below (s₁.setTop (entryFrame m #[.ref x] 1)) (T2.setTop (mkF m 6 #[.val (.ref x)] [.ref x, .int (Int32.ofNat V.slots.size)])) := (c1.trans (st2 _ (Steps.refl _))).trans (by
    refine X2.alen hexec hx2.2.2.2.1 rfl rfl (hb hbytes d4) ?_
    refine XS.aloadN X2.here hexec rfl (hb hbytes d5) rfl rfl ?_
    exact Steps.refl _)
  obtain ⟨v4, T4, X4, E4, g4⟩ := X2.callV hexec (Cdr.law l x cd z) hown (wks W (virtW "java/lang/String" 335 "java/lang/String" Cdr.yN Cdr.yN)) rfl (by decide) (wk W Cdr.tab) (W := 1) (Nat.le_of_ble_eq_true rfl) (Nat.le_of_ble_eq_true rfl) (Nat.le_refl _) (Nat.le_refl _) (hx2.1.fc X2.warmed.alike) hx2.1.is (g := (mkF m 6 #[.val (.ref x)] [.ref x, .int (Int32.ofNat V.slots.size)])) rfl (by rw [hml]; rfl) c3 (argsL := []) (rest := [.int (Int32.ofNat V.slots.size)]) rfl rfl (by show 2 * 0 + (1 + 0) ≤ _; decide) (hb hbytes d6) (⟨rfl, hx2.2.2.1, hx.2.2.2.2.1.cd, s1.there X2.warmed.alike hh2, hz⟩)
  obtain ⟨rfl, q4⟩ := E4
  have c5 : Steps p.tables e below (s₁.setTop (entryFrame m #[.ref x] 1)) (T4.setTop (mkF m 10 #[.val (.ref x)] [.int (Int32.ofNat V.slots.size >>> (cd &&& 31))])) := Steps.trans g4 (by
    refine ishr X4.here hexec rfl (hb hbytes d9) rfl ?_
    exact Steps.refl _)
  rw [hx.2.2.2.2.1.len v31] at c5
  exact ⟨T4, some (.int (Int32.ofNat n)), _, _, _, X4, rfl, rfl, rfl, (fun h => by cases h), ⟨rfl, q4.trans hh2⟩, fun fs hl => c5.trans (X4.ireturnOut hexec hret rfl (Or.inl rfl) (hb hbytes d10) hl)⟩
theorem pays {l : Launch} {R : Room} {p : Program} {e : Env} {below : List Frame} {s : State} {sargs : Array Value} {len W : Nat} (x t : Addr) (V : Cell) (cd : Int32) (n : Nat) (f : Nat → Int32) (z : Int32) (htab : tab.before sargs s = true) (hfr : 2 ≤ R.frames) (hlo : W + 25 ≤ R.locals) :
    Back l R p e below s sargs yN len W (fun A₁ a₁ => A₁.cells + 0 ≤ R.cells ∧ A₁.slots + 0 ≤ R.slots ∧ P x t V cd n f z a₁ A₁.U) (fun A₁ _ v₁ B₁ => E n v₁ A₁.U B₁.U ∧ B₁.locs = A₁.locs ++ [] ∧ B₁.cells = A₁.cells + 0 ∧ B₁.slots = A₁.slots + 0) :=
  (law l x t V cd n f z).pays htab hfr (by omega)
end Len
namespace IsL
def yN : MethodName := ⟨"java/lang/String", "isLatin1", "()Z"⟩
abbrev yB : ByteArray := jdk_42_method_154_code
theorem d0 : decode yB 0 = .ok (.getstatic 38, 3) := by decide +kernel
theorem d3 : decode yB 3 = .ok (.ifCond (.eq) 14, 3) := by decide +kernel
theorem d6 : decode yB 6 = .ok (.aload_n 0, 1) := by decide +kernel
theorem d7 : decode yB 7 = .ok (.getfield 15, 3) := by decide +kernel
theorem d10 : decode yB 10 = .ok (.ifCond (.ne) 7, 3) := by decide +kernel
theorem d13 : decode yB 13 = .ok (.iconst 1, 1) := by decide +kernel
theorem d14 : decode yB 14 = .ok (.goto 4, 3) := by decide +kernel
theorem d17 : decode yB 17 = .ok (.iconst 0, 1) := by decide +kernel
theorem d18 : decode yB 18 = .ok (.ireturn, 1) := by decide +kernel
def site : List Cond := [.fieldLink "java/lang/String" 38 "java/lang/String" "COMPACT_STRINGS" "Z", .fieldLink "java/lang/String" 15 "java/lang/String" "coder" "B"]
def tab : Cond := tabOf yN yB 1 (some .boolean) site
def P (x : Addr) (cd z : Int32) (args : Array Value) (s : State) : Prop := args = #[.ref x] ∧ Has x "java/lang/String" "coder" "B" (.int cd) s ∧ (cd = 0 ∨ cd = 1) ∧ StaticIs s "java/lang/String" "COMPACT_STRINGS" "Z" (.int z) ∧ ¬ z = 0
def E (cd : Int32) (r : Option Value) (s u : State) : Prop := XT.PureE (some (.int (1 - cd))) r s u
theorem law (l : Launch) (x : Addr) (cd z : Int32) : Law l yN 1 0 0 0 yB 1 (some .boolean) site (P x cd z) (E cd) [] 0 0 := by
  refine Law.of_walk (plainFor_of_name (by decide +kernel)) (by decide +kernel) (by decide +kernel) (by decide) (fun _ _ h => by rw [h.1]; rfl) (fun _ U U' hal hh h => ⟨h.1, h.2.1.mv hal hh, h.2.2.1, h.2.2.2.1.there hal hh, h.2.2.2.2⟩) (fun r U U' V V' h1 hal h2 h => XT.PureE.mv r U U' V V' h1 hal h2 h) ?_
  intro p e s m args below meth c s₁ X0 hexec hbytes hml hret hlk hnm hown hh0 W hP
  obtain ⟨rfl, hx, hc, s1, hz⟩ := hP
  have c1 : Steps p.tables e below (s₁.setTop (entryFrame m #[.ref x] 1)) (s₁.setTop (mkF m 0 #[.val (.ref x)] [])) := entry rfl
  obtain ⟨T2, X2, q2, st2⟩ := X0.sget hexec hown (wk W (.fieldLink "java/lang/String" 38 "java/lang/String" "COMPACT_STRINGS" "Z")) s1 (fun _ _ h => by rw [hh0]; exact h) (g := (mkF m 0 #[.val (.ref x)] [])) rfl (hb hbytes d0)
  have hh2 := q2.trans hh0
  have c3 : Steps p.tables e below (s₁.setTop (entryFrame m #[.ref x] 1)) (T2.setTop (mkF m 7 #[.val (.ref x)] [.ref x])) := (c1.trans (st2 _ (Steps.refl _))).trans (by
    refine XS.ifNo X2.here hexec rfl (hb hbytes d3) rfl (i0_eq_f hz) ?_
    refine XS.aloadN X2.here hexec rfl (hb hbytes d6) rfl rfl ?_
    exact Steps.refl _)
  obtain ⟨T4, X4, q4, st4⟩ := X2.hget hexec hown (wk W (.fieldLink "java/lang/String" 15 "java/lang/String" "coder" "B")) (hx.mv X2.warmed.alike hh2) (g := (mkF m 7 #[.val (.ref x)] [.ref x])) rfl (rest := []) rfl (hb hbytes d7)
  have c5 : Steps p.tables e below (s₁.setTop (entryFrame m #[.ref x] 1)) (T4.setTop (mkF m 10 #[.val (.ref x)] [.int cd])) := c3.trans (st4 _ (Steps.refl _))
  have c6 : Steps p.tables e below (s₁.setTop (entryFrame m #[.ref x] 1)) (T4.setTop (mkF m 18 #[.val (.ref x)] [.int (1 - cd)])) := by
    rcases hc with rfl | rfl
    · exact c5.trans (by
        refine XS.ifNo X4.here hexec rfl (hb hbytes d10) rfl (i0_ne_f rfl) ?_
        refine iconstV X4.here hexec rfl 1 (hb hbytes d13) (by decide) ?_
        refine XS.goto X4.here hexec rfl (pc0 := 14) rfl (hb hbytes d14) (by decide) rfl ?_
        exact Steps.refl _)
    · exact c5.trans (by
        refine XS.ifYes X4.here hexec rfl (pc0 := 10) rfl (hb hbytes d10) rfl (i0_ne_t (by decide)) (by decide) rfl ?_
        refine iconstV X4.here hexec rfl 0 (hb hbytes d17) (by decide) ?_
        exact Steps.refl _)
  exact ⟨T4, some (.int (1 - cd)), _, _, _, X4, rfl, rfl, rfl, (fun h => by cases h), ⟨rfl, q4.trans hh2⟩, fun fs hl => c6.trans (X4.ireturnOut hexec hret (by rcases hc with rfl | rfl <;> rfl) (Or.inr (Or.inl rfl)) (hb hbytes d18) hl)⟩
end IsL
namespace LChA
def yN : MethodName := ⟨"java/lang/StringLatin1", "charAt", "([BI)C"⟩
abbrev yB : ByteArray := jdk_43_method_2_code
theorem d0 : decode yB 0 = .ok (.iload_n 1, 1) := by decide +kernel
theorem d1 : decode yB 1 = .ok (.aload_n 0, 1) := by decide +kernel
theorem d2 : decode yB 2 = .ok (.arraylength, 1) := by decide +kernel
theorem d3 : decode yB 3 = .ok (.invokestatic 9, 3) := by decide +kernel
theorem d6 : decode yB 6 = .ok (.aload_n 0, 1) := by decide +kernel
theorem d7 : decode yB 7 = .ok (.iload_n 1, 1) := by decide +kernel
theorem d8 : decode yB 8 = .ok (.baload, 1) := by decide +kernel
theorem d9 : decode yB 9 = .ok (.sipush 255, 3) := by decide +kernel
theorem d12 : decode yB 12 = .ok (.iand, 1) := by decide +kernel
theorem d13 : decode yB 13 = .ok (.i2c, 1) := by decide +kernel
theorem d14 : decode yB 14 = .ok (.ireturn, 1) := by decide +kernel
def site : List Cond := [JO.Str_checkIndex.tab] ++ staticW "java/lang/StringLatin1" 9 JO.Str_checkIndex.yN
def tab : Cond := tabOf yN yB 2 (some .char) site
def P (t : Addr) (V : Cell) (i : Nat) (u : Int32) (fm : Value) (args : Array Value) (s : State) : Prop := args = #[.ref t, .int (Int32.ofNat i)] ∧ XT.Arr .byte t V s ∧ V.slots[i]? = some (.int u) ∧ (StaticIs s "jdk/internal/util/Preconditions" "SIOOBE_FORMATTER" "Ljava/util/function/BiFunction;" fm ∧ fm.isRef = true)
def E (u : Int32) (r : Option Value) (s w : State) : Prop := XT.PureE (some (.int (chr8 u))) r s w
theorem law (l : Launch) (t : Addr) (V : Cell) (i : Nat) (u : Int32) (fm : Value) : Law l yN 2 2 2 27 yB 2 (some .char) site (P t V i u fm) (E u) [] 0 0 := by
  refine Law.of_walk (plainFor_of_name (by decide +kernel)) (by decide +kernel) (by decide +kernel) (by decide) (fun _ _ h => by rw [h.1]; rfl) (fun _ U U' hal hh h => ⟨h.1, h.2.1.mv hal hh, h.2.2.1, h.2.2.2.1.there hal hh, h.2.2.2.2⟩) (fun r U U' V V' h1 hal h2 h => XT.PureE.mv r U U' V V' h1 hal h2 h) ?_
  intro p e s m args below meth c s₁ X0 hexec hbytes hml hret hlk hnm hown hh0 W hP
  obtain ⟨rfl, hV, hu, s1, rf⟩ := hP
  have v31 := hV.2.2.2
  have hi : i < V.slots.size := (Array.getElem?_eq_some_iff.mp hu).1
  have c1 : Steps p.tables e below (s₁.setTop (entryFrame m #[.ref t, .int (Int32.ofNat i)] 2)) (s₁.setTop (mkF m 0 #[.val (.ref t), .val (.int (Int32.ofNat i))] [])) := entry rfl
  have c2 : Steps p.tables e below (s₁.setTop (entryFrame m #[.ref t, .int (Int32.ofNat i)] 2)) (s₁.setTop (mkF m 3 #[.val (.ref t), .val (.int (Int32.ofNat i))] [.int (Int32.ofNat V.slots.size), .int (Int32.ofNat i)])) := c1.trans (by
    refine XS.iloadN X0.here hexec rfl (hb hbytes d0) rfl ?_
    refine XS.aloadN X0.here hexec rfl (hb hbytes d1) rfl rfl ?_
    refine X0.alen hexec (hV.mv X0.warmed.alike hh0) rfl rfl (hb hbytes d2) ?_
    exact Steps.refl _)
  obtain ⟨v3, T3, X3, E3, g3⟩ := X0.callS hexec (JO.Str_checkIndex.law l (Int32.ofNat i) (Int32.ofNat V.slots.size) fm) hown (wks W (staticW "java/lang/StringLatin1" 9 JO.Str_checkIndex.yN)) (wk W JO.Str_checkIndex.tab) (W := 0) (Nat.le_of_ble_eq_true rfl) (Nat.le_of_ble_eq_true rfl) (Nat.le_refl _) (Nat.le_refl _) (g := (mkF m 3 #[.val (.ref t), .val (.int (Int32.ofNat i))] [.int (Int32.ofNat V.slots.size), .int (Int32.ofNat i)])) rfl (by rw [hml]; rfl) c2 (argsL := [.int (Int32.ofNat i), .int (Int32.ofNat V.slots.size)]) (rest := []) rfl rfl (by show 2 * 0 + 0 ≤ _; decide) (hb hbytes d3) (⟨rfl, rf, s1.there X0.warmed.alike hh0, Int32.ofNat_not_neg (by omega), lt32 v31 hi⟩)
  obtain ⟨rfl, q3⟩ := E3
  have hh3 := q3.trans hh0
  have c4 : Steps p.tables e below (s₁.setTop (entryFrame m #[.ref t, .int (Int32.ofNat i)] 2)) (T3.setTop (mkF m 14 #[.val (.ref t), .val (.int (Int32.ofNat i))] [.int (chr8 u)])) := Steps.trans g3 (by
    refine XS.aloadN X3.here hexec rfl (hb hbytes d6) rfl rfl ?_
    refine XS.iloadN X3.here hexec rfl (hb hbytes d7) rfl ?_
    refine X3.aget hexec (hV.mv X3.warmed.alike hh3) rfl hu rfl rfl (hb hbytes d8) ?_
    refine sipushV X3.here hexec rfl 255 (hb hbytes d9) (by decide) ?_
    refine XS.iand X3.here hexec rfl (hb hbytes d12) rfl ?_
    refine i2c X3.here hexec rfl (hb hbytes d13) rfl ?_
    exact Steps.refl _)
  exact ⟨T3, some (.int (chr8 u)), _, _, _, X3, rfl, rfl, rfl, (fun h => by cases h), ⟨rfl, hh3⟩, fun fs hl => c4.trans (X3.ireturnOut hexec hret (narrow_c _) (Or.inr (Or.inr (Or.inr (Or.inl rfl)))) (hb hbytes d14) hl)⟩
end LChA
end StrChars
namespace StrChars.Road
open Jvm Sem ClassFile Op Lib Jvm.Stand Jvm.Free Jvm.Free.XT
open Jvm.Lib.Cold (StaticIs)
theorem consq {a : Array Value} {s : State} {c : Jvm.Cond} {L : List Jvm.Cond} (h0 : c.before a s = true) (h : ∀ w ∈ L, w.before a s = true) : ∀ w ∈ c :: L, w.before a s = true := fun w hw => (List.mem_cons.mp hw).elim (fun e => e ▸ h0) (h w)
/-- the words of String.length(), either coding -/
abbrev wordsLen : List Jvm.Cond := [.code Len.yN Len.yB 1 (some .int), .initialized ST, .fieldLink ST 9 ST "value" "[B", .fieldLink ST 38 ST "COMPACT_STRINGS" "Z", .fieldLink ST 15 ST "coder" "B", .code Cdr.yN Cdr.yB 1 (some .byte), .methodLink ST 335 Cdr.yN, .declares Cdr.yN, .selects ST Cdr.yN Cdr.yN, .instanceMethod Cdr.yN]
theorem tabLen_of {a : Array Value} {s : State} (h : ∀ w ∈ wordsLen, w.before a s = true) : Len.tab.before a s = true := by
  have hc : Cdr.tab.before a s = true := unparts (wk h (.code Cdr.yN Cdr.yB 1 (some .byte))) (wks h (.initialized Cdr.yN.cls :: Cdr.site))
  have q := consq hc h
  exact unparts (wk q (.code Len.yN Len.yB 1 (some .int))) (wks q (.initialized Len.yN.cls :: Len.site))
theorem movedLen {Z s : State} {a0 args : Array Value} (hZ : Z.Warmed39 s.vm) (hw : ∀ d ∈ wordsLen, d.before a0 Z = true) : ∀ d ∈ wordsLen, d.before args s = true := fun d hd => by
  have q := hw d hd
  have t : ∀ d ∈ wordsLen, d = .arrayClass .byte ∨ (d.onTables && d.keepsFace) = true := by decide +kernel
  rcases t d hd with rfl | t
  · exact RoadKit.mvA hZ q
  · exact RoadKit.mv hZ q t
/-- the bytes of the chars cs, low before high -/
def wideBytes : List Int32 → List Value
  | [] => []
  | c :: cs => .int (lo8 c) :: .int (hi8 c) :: wideBytes cs
theorem wide_lo (d : Value) : ∀ (cs : List Int32) (j : Nat), j < cs.length → (wideBytes cs).getD (2 * j) d = .int (lo8 (cs.getD j 0))
  | [], j, h => absurd h (Nat.not_lt_zero j)
  | c :: cs, 0, _ => rfl
  | c :: cs, j + 1, h => by
    have q := wide_lo d cs j (by simpa using h)
    rw [show 2 * (j + 1) = 2 * j + 1 + 1 from by omega]
    simpa [wideBytes] using q
theorem wide_hi (d : Value) : ∀ (cs : List Int32) (j : Nat), j < cs.length → (wideBytes cs).getD (2 * j + 1) d = .int (hi8 (cs.getD j 0))
  | [], j, h => absurd h (Nat.not_lt_zero j)
  | c :: cs, 0, _ => rfl
  | c :: cs, j + 1, h => by
    have q := wide_hi d cs j (by simpa using h)
    rw [show 2 * (j + 1) + 1 = 2 * j + 1 + 1 + 1 from by omega]
    simpa [wideBytes] using q
theorem low_at (d : Value) (cs : List Int32) (j : Nat) (h : j < cs.length) : (cs.map fun c => Value.int (lo8 c)).getD j d = .int (lo8 (cs.getD j 0)) := by
  simp [List.getD_eq_getElem?_getD, h]
/-- an array of N2 bytes vs codes the chars cs by the coder cd -/
def CodA (cs : List Int32) (cd N2 : Int32) (vs : List Value) : Prop := (cd = 0 ∧ N2 = Int32.ofNat cs.length ∧ vs = (cs.map fun c => Value.int (lo8 c)) ∧ ∀ c ∈ cs, ¬ 255 < c) ∨ (cd = 1 ∧ N2 = Int32.ofNat (2 * cs.length) ∧ vs = wideBytes cs ∧ ∃ c ∈ cs, 255 < c)
theorem CodA.cod {cs : List Int32} {cd N2 : Int32} {vs : List Value} {V : Cell} (h : CodA cs cd N2 vs) (hn : 2 * cs.length < 2 ^ 31) (hs : V.slots.size = N2.toNatClampNeg) (hv : RoadKit.Has V vs (.int 0)) : Cod cd cs.length (fun j => cs.getD j 0) V := by
  rcases h with ⟨rfl, rfl, rfl, h⟩ | ⟨rfl, rfl, rfl, c, hc, hw⟩
  · rw [n32 (by omega)] at hs
    exact Or.inl ⟨rfl, hs, fun j hj => ⟨by rw [hv j (by omega), low_at _ _ _ hj], by
      have e : cs.getD j 0 = cs[j] := by simp [List.getD_eq_getElem?_getD, hj]
      show ¬ 255 < cs.getD j 0
      rw [e]; exact h _ (List.getElem_mem _)⟩⟩
  · rw [n32 (by omega)] at hs
    obtain ⟨j, hj, rfl⟩ := List.getElem_of_mem hc
    exact Or.inr ⟨rfl, hs, fun j hj => ⟨by rw [hv _ (by omega), wide_lo _ _ _ hj], by rw [hv _ (by omega), wide_hi _ _ _ hj]⟩, j, hj, by
      have e : cs.getD j 0 = cs[j] := by simp [List.getD_eq_getElem?_getD, hj]
      show 255 < cs.getD j 0
      rw [e]; exact hw⟩
/-- an object of exactly java/lang/String, its two fields found: as the laws ask it -/
theorem strObj {Z U : State} {a0 : Array Value} {kI : Nat} (wi : (Jvm.Cond.instantiable ST kI).before a0 Z = true) (al : Z.vm.Alike U.vm) {x : Addr} {v0 c0 : Value} (E : RoadKit.Exa Z U.heap x ST) (V : RoadKit.Fld Z U.heap x ST "value" "[B" v0) (C : RoadKit.Fld Z U.heap x ST "coder" "B" c0) :
    ∃ (D : Cell) (fV fC : Field), Blank ST x D U ∧ Found ST "value" "[B" fV U ∧ Found ST "coder" "B" fC U ∧ D.slots[fV.slot]? = some v0 ∧ D.slots[fC.slot]? = some c0 ∧ RoadKit.slotOf Z ST "value" "[B" = fV.slot ∧ RoadKit.slotOf Z ST "coder" "B" = fC.slot := by
  obtain ⟨D, cfV, kV, iV, fV, hD, gV, stV, knV, obV, asV, slV⟩ := V
  obtain ⟨D', cfC, kC, iC, fC, hD', gC, stC, -, -, asC, slC⟩ := C
  cases hD.symm.trans hD'
  obtain ⟨D2, kD, e1, e2, e3, e4, e5⟩ := E
  cases hD.symm.trans e1
  obtain ⟨c2, k2, i1, i2, i3, -⟩ := Cond.instantiable_spec wi
  cases e2.symm.trans i1
  cases e3.symm.trans i2
  obtain ⟨kU, u1, u2⟩ := al.2.2 _ _ e3
  exact ⟨D, fV, fC, ⟨hD, ⟨knV, fun q hq => by rw [hq] at obV; cases obV⟩, by rw [al.findClass]; exact e2, kU, u1, by rw [u2]; exact i3, by rw [u2]; exact e5 i3⟩, ⟨SBG.found_only al ⟨cfV, kV, iV, gV⟩, stV⟩, ⟨SBG.found_only al ⟨cfC, kC, iC, gC⟩, stC⟩, slV, slC, by simp [RoadKit.slotOf, gV], by simp [RoadKit.slotOf, gC]⟩
theorem sta_is {Z U : State} (al : Z.vm.Alike U.vm) {C n d : String} {v : Value} (S : RoadKit.Sta Z U.heap C n d v) : StaticIs U C n d v := by
  obtain ⟨cfS, iS, kS, fS, st, cS, t1, t2, t3, t4, t5, t6, t7⟩ := S
  exact StaticIs.there (s := { Z with heap := U.heap }) ⟨cfS, iS, kS, fS, st, cS, t1, t2, t3, t4, t5, (fun q => by rw [q] at t6; cases t6), t7⟩ al rfl
/-- **length() OF SUCH A STRING** -/
theorem lenW {p : Program} {l : Launch} {e : Env} {R : Room} {s : State} {args : Array Value} {below : List Frame} {len W : Nat} {Z : State} {a0 : Array Value} {h : Heap} (hZ : Z.Warmed39 s.vm) (hw : ∀ d ∈ wordsLen, d.before a0 Z = true) {kI : Nat} (wi : (Jvm.Cond.instantiable ST kI).before a0 Z = true)
    {x t : Addr} {kb : ClassId} {cs : List Int32} {cd N2 z : Int32} {vs : List Value} (E : RoadKit.Exa Z h x ST) (V : RoadKit.Fld Z h x ST "value" "[B" (.ref t)) (C : RoadKit.Fld Z h x ST "coder" "B" (.int cd)) (K : RoadKit.Arv Z h t kb .byte N2 vs (.int 0)) (hc : CodA cs cd N2 vs) (hb : ∀ c ∈ cs, ¬ c < 0 ∧ ¬ (65535 : Int32) < c)
    (S : RoadKit.Sta Z h ST "COMPACT_STRINGS" "Z" (.int z)) (hz : ¬ z = 0) (l2 : cs.length ≤ 4000) (hfr : 2 ≤ R.frames) (hlo : W + 25 ≤ R.locals) :
    Back l R p e below s args (⟨"java/lang/String", "length", "()I"⟩ : MethodName) len W (fun P a => a = #[.ref x] ∧ P.U.heap = h ∧ P.cells + 0 ≤ R.cells ∧ P.slots + 0 ≤ R.slots)
      (fun P _ v B => ∃ L, (v = some (.int (Int32.ofNat cs.length)) ∧ L = [] ∧ B.U.heap = h) ∧ B.locs = P.locs ++ L ∧ B.cells = P.cells + 0 ∧ B.slots = P.slots + 0) := by
  obtain ⟨A, K1, K2, K3, K4, K5, K6⟩ := K
  have hcod := hc.cod (by omega) K3 K5
  intro m meth c P g ig mk a X hg hsize hdg hW hn hp'
  obtain ⟨rfl, rfl, r1, r2⟩ := hp'
  have al : Z.vm.Alike P.U.vm := hZ.alike.trans X.warmed.alike
  obtain ⟨D, fV, fC, hB, F1, F2, g1, g2, -, -⟩ := strObj wi al E V C
  have hx : Txt x t A cd cs.length (fun j => cs.getD j 0) P.U := ⟨⟨_, hB.2.2.1, D, hB.1, rfl, by cases q : D.vm <;> first | rfl | exact absurd q (hB.2.1.2 _)⟩, Has.of hB F1 g1, Has.of hB F2 g2, ⟨K1.1, State.isArrayOf_alike al K1.2.1, K1.2.2, by rcases hcod with ⟨-, q, -⟩ | ⟨-, q, -⟩ <;> omega⟩, hcod, fun j hj => by
    have e : cs.getD j 0 = cs[j] := by simp [List.getD_eq_getElem?_getD, hj]
    show ¬ cs.getD j 0 < 0 ∧ ¬ 65535 < cs.getD j 0
    rw [e]; exact hb _ (List.getElem_mem _)⟩
  obtain ⟨v, B, X', ⟨⟨hv, hh⟩, hl, hk, hs⟩, st⟩ := Len.pays x t A cd cs.length (fun j => cs.getD j 0) z (tabLen_of (movedLen hZ hw)) hfr hlo m meth c P g ig mk _ X hg hsize hdg hW hn ⟨r1, r2, rfl, hx, sta_is al S, hz⟩
  exact ⟨v, B, X', ⟨[], ⟨hv, rfl, hh⟩, hl, hk, hs⟩, st⟩
end StrChars.Road
namespace StrChars.Road
open Jvm Sem ClassFile Op Lib Jvm.Stand Jvm.Free Jvm.Free.XT
open Jvm.Lib.Cold (StaticIs)
/-- the road's facts of a String, as the laws ask it -/
theorem txt_of {Z U : State} {a0 : Array Value} {kI : Nat} (wi : (Jvm.Cond.instantiable ST kI).before a0 Z = true) (al : Z.vm.Alike U.vm) {x t : Addr} {kb : ClassId} {cs : List Int32} {cd N2 : Int32} {vs : List Value} (E : RoadKit.Exa Z U.heap x ST) (V : RoadKit.Fld Z U.heap x ST "value" "[B" (.ref t)) (C : RoadKit.Fld Z U.heap x ST "coder" "B" (.int cd)) (K : RoadKit.Arv Z U.heap t kb .byte N2 vs (.int 0)) (hc : CodA cs cd N2 vs) (hb : ∀ c ∈ cs, ¬ c < 0 ∧ ¬ (65535 : Int32) < c) (l2 : cs.length ≤ 4000) :
    ∃ A, Txt x t A cd cs.length (fun j => cs.getD j 0) U := by
  obtain ⟨A, K1, K2, K3, K4, K5, K6⟩ := K
  have hcod := hc.cod (by omega) K3 K5
  obtain ⟨D, fV, fC, hB, F1, F2, g1, g2, -, -⟩ := strObj wi al E V C
  exact ⟨A, ⟨_, hB.2.2.1, D, hB.1, rfl, by cases q : D.vm <;> first | rfl | exact absurd q (hB.2.1.2 _)⟩, Has.of hB F1 g1, Has.of hB F2 g2, ⟨K1.1, State.isArrayOf_alike al K1.2.1, K1.2.2, by rcases hcod with ⟨-, q, -⟩ | ⟨-, q, -⟩ <;> omega⟩, hcod, fun j hj => by
    have e : cs.getD j 0 = cs[j] := by simp [List.getD_eq_getElem?_getD, hj]
    show ¬ cs.getD j 0 < 0 ∧ ¬ 65535 < cs.getD j 0
    rw [e]; exact hb _ (List.getElem_mem _)⟩
end StrChars.Road
namespace StrChars
open Jvm Sem ClassFile Op Lib Jvm.Stand Jvm.Free.XT Jvm.Free.ALB Jvm.Free.JM Jvm.Free
open Jvm.Lib.Cold (StaticIs)
namespace ChN
def yN : MethodName := ⟨"java/lang/String", "charAt", "(I)C"⟩
abbrev yB : ByteArray := jdk_42_method_56_code
theorem d0 : decode yB 0 = .ok (.aload_n 0, 1) := by decide +kernel
theorem d1 : decode yB 1 = .ok (.invokevirtual 492, 3) := by decide +kernel
theorem d4 : decode yB 4 = .ok (.ifCond (.eq) 12, 3) := by decide +kernel
theorem d7 : decode yB 7 = .ok (.aload_n 0, 1) := by decide +kernel
theorem d8 : decode yB 8 = .ok (.getfield 9, 3) := by decide +kernel
theorem d11 : decode yB 11 = .ok (.iload_n 1, 1) := by decide +kernel
theorem d12 : decode yB 12 = .ok (.invokestatic 495, 3) := by decide +kernel
theorem d15 : decode yB 15 = .ok (.ireturn, 1) := by decide +kernel
def site : List Cond := [.fieldLink "java/lang/String" 9 "java/lang/String" "value" "[B", IsL.tab, LChA.tab] ++ virtW "java/lang/String" 492 "java/lang/String" IsL.yN IsL.yN ++ staticW "java/lang/String" 495 LChA.yN
def tab : Cond := tabOf yN yB 2 (some .char) site
def P (x t : Addr) (V : Cell) (n : Nat) (f : Nat → Int32) (z : Int32) (fm : Value) (i : Nat) (args : Array Value) (s : State) : Prop := args = #[.ref x, .int (Int32.ofNat i)] ∧ Txt x t V 0 n f s ∧ i < n ∧ StaticIs s "java/lang/String" "COMPACT_STRINGS" "Z" (.int z) ∧ ¬ z = 0 ∧ StaticIs s "jdk/internal/util/Preconditions" "SIOOBE_FORMATTER" "Ljava/util/function/BiFunction;" fm ∧ fm.isRef = true
def E (f : Nat → Int32) (i : Nat) (r : Option Value) (s u : State) : Prop := XT.PureE (some (.int (f i))) r s u
/-- charAt(i) of a Latin-1 String of n chars, i < n: f i -/
theorem law (l : Launch) (x t : Addr) (V : Cell) (n : Nat) (f : Nat → Int32) (z : Int32) (fm : Value) (i : Nat) : Law l yN 2 1 3 40 yB 2 (some .char) site (P x t V n f z fm i) (E f i) [] 0 0 := by
  refine Law.of_walk (plainFor_of_name (by decide +kernel)) (by decide +kernel) (by decide +kernel) (by decide) (fun _ _ h => by rw [h.1]; rfl) (fun _ U U' hal hh h => ⟨h.1, h.2.1.mv hal hh, h.2.2.1, h.2.2.2.1.there hal hh, h.2.2.2.2.1, h.2.2.2.2.2.1.there hal hh, h.2.2.2.2.2.2⟩) (fun r U U' V V' h1 hal h2 h => XT.PureE.mv r U U' V V' h1 hal h2 h) ?_
  intro p e s m args below meth c s₁ X0 hexec hbytes hml hret hlk hnm hown hh0 W hP
  obtain ⟨rfl, hx, hi, s1, hz, s3, rf⟩ := hP
  have v31 := hx.2.2.2.1.2.2.2
  have hr := hx.2.2.2.2.2 i hi
  have hx0 := hx.mv X0.warmed.alike hh0
  have c1 : Steps p.tables e below (s₁.setTop (entryFrame m #[.ref x, .int (Int32.ofNat i)] 2)) (s₁.setTop (mkF m 1 #[.val (.ref x), .val (.int (Int32.ofNat i))] [.ref x])) := Steps.trans (entry rfl) (by
    show Steps p.tables e below (s₁.setTop (mkF m 0 #[.val (.ref x), .val (.int (Int32.ofNat i))] [])) _
    refine XS.aloadN X0.here hexec rfl (hb hbytes d0) rfl rfl ?_
    exact Steps.refl _)
  obtain ⟨v2, T2, X2, E2, g2⟩ := X0.callV hexec (IsL.law l x 0 z) hown (wks W (virtW "java/lang/String" 492 "java/lang/String" IsL.yN IsL.yN)) rfl (by decide) (wk W IsL.tab) (W := 0) (Nat.le_of_ble_eq_true rfl) (Nat.le_of_ble_eq_true rfl) (Nat.le_refl _) (Nat.le_refl _) (hx0.1.fc X0.warmed.alike) hx0.1.is (g := (mkF m 1 #[.val (.ref x), .val (.int (Int32.ofNat i))] [.ref x])) rfl (by rw [hml]; rfl) c1 (argsL := []) (rest := []) rfl rfl (by show 2 * 0 + 0 ≤ _; decide) (hb hbytes d1) (⟨rfl, hx0.2.2.1, hx.2.2.2.2.1.cd, s1.there X0.warmed.alike hh0, hz⟩)
  obtain ⟨rfl, q2⟩ := E2
  have hh2 := q2.trans hh0
  have hx2 := hx.mv X2.warmed.alike hh2
  obtain ⟨-, k1, k2⟩ | ⟨k0, -⟩ := hx.2.2.2.2.1
  · have c3 : Steps p.tables e below (s₁.setTop (entryFrame m #[.ref x, .int (Int32.ofNat i)] 2)) (T2.setTop (mkF m 8 #[.val (.ref x), .val (.int (Int32.ofNat i))] [.ref x])) := Steps.trans g2 (by
      refine XS.ifNo X2.here hexec rfl (hb hbytes d4) rfl (i0_eq_f (by decide)) ?_
      refine XS.aloadN X2.here hexec rfl (hb hbytes d7) rfl rfl ?_
      exact Steps.refl _)
    obtain ⟨T4, X4, q4, st4⟩ := X2.hget hexec hown (wk W (.fieldLink "java/lang/String" 9 "java/lang/String" "value" "[B")) hx2.2.1 (g := (mkF m 8 #[.val (.ref x), .val (.int (Int32.ofNat i))] [.ref x])) rfl (rest := []) rfl (hb hbytes d8)
    have hh4 := q4.trans hh2
    have c5 : Steps p.tables e below (s₁.setTop (entryFrame m #[.ref x, .int (Int32.ofNat i)] 2)) (T4.setTop (mkF m 12 #[.val (.ref x), .val (.int (Int32.ofNat i))] [.int (Int32.ofNat i), .ref t])) := (c3.trans (st4 _ (Steps.refl _))).trans (by
      refine XS.iloadN X4.here hexec rfl (hb hbytes d11) rfl ?_
      exact Steps.refl _)
    obtain ⟨v6, T6, X6, E6, g6⟩ := X4.callS hexec (LChA.law l t V i (lo8 (f i)) fm) hown (wks W (staticW "java/lang/String" 495 LChA.yN)) (wk W LChA.tab) (W := 0) (Nat.le_of_ble_eq_true rfl) (Nat.le_of_ble_eq_true rfl) (Nat.le_refl _) (Nat.le_refl _) (g := (mkF m 12 #[.val (.ref x), .val (.int (Int32.ofNat i))] [.int (Int32.ofNat i), .ref t])) rfl (by rw [hml]; rfl) c5 (argsL := [.ref t, .int (Int32.ofNat i)]) (rest := []) rfl rfl (by show 2 * 0 + 0 ≤ _; decide) (hb hbytes d12) (⟨rfl, hx.2.2.2.1.mv X4.warmed.alike hh4, (k2 i hi).1, s3.there X4.warmed.alike hh4, rf⟩)
    obtain ⟨rfl, q6⟩ := E6
    rw [chr8_lo8 hr.1 (k2 i hi).2] at g6
    exact ⟨T6, some (.int (f i)), _, _, _, X6, rfl, rfl, rfl, (fun h => by cases h), ⟨rfl, q6.trans hh4⟩, fun fs hl => Steps.trans g6 (X6.ireturnOut hexec hret (narrow_ch hr.1 hr.2) (Or.inr (Or.inr (Or.inr (Or.inl rfl)))) (hb hbytes d15) hl)⟩
  · exact absurd k0 (by decide)
theorem pays {l : Launch} {R : Room} {p : Program} {e : Env} {below : List Frame} {s : State} {sargs : Array Value} {len W : Nat} (x t : Addr) (V : Cell) (n : Nat) (f : Nat → Int32) (z : Int32) (fm : Value) (i : Nat) (htab : tab.before sargs s = true) (hfr : 4 ≤ R.frames) (hlo : W + 53 ≤ R.locals) :
    Back l R p e below s sargs yN len W (fun A₁ a₁ => A₁.cells + 0 ≤ R.cells ∧ A₁.slots + 0 ≤ R.slots ∧ P x t V n f z fm i a₁ A₁.U) (fun A₁ _ v₁ B₁ => E f i v₁ A₁.U B₁.U ∧ B₁.locs = A₁.locs ++ [] ∧ B₁.cells = A₁.cells + 0 ∧ B₁.slots = A₁.slots + 0) :=
  (law l x t V n f z fm i).pays htab hfr (by omega)
end ChN
end StrChars
namespace StrChars.Road
open Jvm Sem ClassFile Op Lib Jvm.Stand Jvm.Free Jvm.Free.XT
open Jvm.Lib.Cold (StaticIs)
/-- the words of String.charAt(int), the Latin-1 road alone -/
abbrev wordsChN : List Jvm.Cond := [.code ChN.yN ChN.yB 2 (some .char), .initialized ST, .fieldLink ST 9 ST "value" "[B", .fieldLink ST 38 ST "COMPACT_STRINGS" "Z", .fieldLink ST 15 ST "coder" "B", .code IsL.yN IsL.yB 1 (some .boolean), .methodLink ST 492 IsL.yN, .declares IsL.yN, .selects ST IsL.yN IsL.yN, .instanceMethod IsL.yN,
  .methodLink ST 495 LChA.yN, .static LChA.yN, .code LChA.yN LChA.yB 2 (some .char), .initialized "java/lang/StringLatin1", .methodLink "java/lang/StringLatin1" 9 JO.Str_checkIndex.yN, .static JO.Str_checkIndex.yN, .code JO.Str_checkIndex.yN JO.Str_checkIndex.yB 2 none,
  .fieldLink ST 1053 "jdk/internal/util/Preconditions" "SIOOBE_FORMATTER" "Ljava/util/function/BiFunction;", .methodLink ST 1059 JC.PreCheck.yN, .static JC.PreCheck.yN, .code JC.PreCheck.yN JC.PreCheck.yB 3 (some .int), .initialized "jdk/internal/util/Preconditions"]
theorem tabChN_of {a : Array Value} {s : State} (h : ∀ w ∈ wordsChN, w.before a s = true) : ChN.tab.before a s = true := by
  have hp : JC.PreCheck.tab.before a s = true := unparts (wk h (.code JC.PreCheck.yN JC.PreCheck.yB 3 (some .int))) (wks h (.initialized JC.PreCheck.yN.cls :: JC.PreCheck.site))
  have qk := consq hp h
  have hk : JO.Str_checkIndex.tab.before a s = true := unparts (wk qk (.code JO.Str_checkIndex.yN JO.Str_checkIndex.yB 2 none)) (wks qk (.initialized JO.Str_checkIndex.yN.cls :: JO.Str_checkIndex.site))
  have ql := consq hk h
  have hl : LChA.tab.before a s = true := unparts (wk ql (.code LChA.yN LChA.yB 2 (some .char))) (wks ql (.initialized LChA.yN.cls :: LChA.site))
  have hi : IsL.tab.before a s = true := unparts (wk h (.code IsL.yN IsL.yB 1 (some .boolean))) (wks h (.initialized IsL.yN.cls :: IsL.site))
  have q := consq hi (consq hl h)
  exact unparts (wk q (.code ChN.yN ChN.yB 2 (some .char))) (wks q (.initialized ChN.yN.cls :: ChN.site))
theorem movedChN {Z s : State} {a0 args : Array Value} (hZ : Z.Warmed39 s.vm) (hw : ∀ d ∈ wordsChN, d.before a0 Z = true) : ∀ d ∈ wordsChN, d.before args s = true := fun d hd => by
  have t : ∀ d ∈ wordsChN, (d.onTables && d.keepsFace) = true := by decide +kernel
  exact RoadKit.mv hZ (hw d hd) (t d hd)
/-- **charAt(i) OF A LATIN-1 STRING**, i < n: the char -/
theorem chN {p : Program} {l : Launch} {e : Env} {R : Room} {s : State} {args : Array Value} {below : List Frame} {len W : Nat} {Z : State} {a0 : Array Value} {h : Heap} (hZ : Z.Warmed39 s.vm) (hw : ∀ d ∈ wordsChN, d.before a0 Z = true) {kI : Nat} (wi : (Jvm.Cond.instantiable ST kI).before a0 Z = true)
    {x t : Addr} {kb : ClassId} {cs : List Int32} {N2 z : Int32} {vs : List Value} {fm : Value} {i : Nat} {j : Int32} (E : RoadKit.Exa Z h x ST) (V : RoadKit.Fld Z h x ST "value" "[B" (.ref t)) (C : RoadKit.Fld Z h x ST "coder" "B" (.int 0)) (K : RoadKit.Arv Z h t kb .byte N2 vs (.int 0)) (hc : CodA cs 0 N2 vs) (hb : ∀ c ∈ cs, ¬ c < 0 ∧ ¬ (65535 : Int32) < c)
    (S : RoadKit.Sta Z h ST "COMPACT_STRINGS" "Z" (.int z)) (hz : ¬ z = 0) (F : RoadKit.Sta Z h "jdk/internal/util/Preconditions" "SIOOBE_FORMATTER" "Ljava/util/function/BiFunction;" fm) (rf : fm.isRef = true) (l2 : cs.length ≤ 4000) (hi : i < cs.length) (hj : j = Int32.ofNat i) (hfr : 4 ≤ R.frames) (hlo : W + 53 ≤ R.locals) :
    Back l R p e below s args (⟨"java/lang/String", "charAt", "(I)C"⟩ : MethodName) len W (fun P a => a = #[.ref x, .int j] ∧ P.U.heap = h ∧ P.cells + 0 ≤ R.cells ∧ P.slots + 0 ≤ R.slots)
      (fun P _ v B => ∃ L, (v = some (.int (cs.getD i 0)) ∧ L = [] ∧ B.U.heap = h) ∧ B.locs = P.locs ++ L ∧ B.cells = P.cells + 0 ∧ B.slots = P.slots + 0) := by
  subst hj
  intro m meth c P g ig mk a X hg hsize hdg hW hn hp'
  obtain ⟨rfl, rfl, r1, r2⟩ := hp'
  have al : Z.vm.Alike P.U.vm := hZ.alike.trans X.warmed.alike
  obtain ⟨A, hx⟩ := txt_of wi al E V C K hc hb l2
  obtain ⟨v, B, X', ⟨⟨hv, hh⟩, hl, hk, hs⟩, st⟩ := ChN.pays x t A cs.length (fun j => cs.getD j 0) z fm i (tabChN_of (movedChN hZ hw)) hfr hlo m meth c P g ig mk _ X hg hsize hdg hW hn ⟨r1, r2, rfl, hx, hi, sta_is al S, hz, sta_is al F, rf⟩
  exact ⟨v, B, X', ⟨[], ⟨hv, rfl, hh⟩, hl, hk, hs⟩, st⟩
/-- what backV says of its String, as the contracts of this text ask it: cs's low bytes, coder 0 -/
theorem codOf {cs : List Int32} {n : Nat} (hn : cs.length = n) (hb : ∀ c ∈ cs, ¬ 255 < c) : CodA cs 0 (Int32.ofNat n) ((cs.map lo8).map Value.int) := Or.inl ⟨rfl, by rw [hn], by simp [List.map_map, Function.comp_def], hb⟩
end StrChars.Road
end Jvm.Pilot.@@N@@
namespace Jvm.Pilot.@@N@@
open Jvm Jvm.ClassFile Sem Op Lib Jvm.Free Jvm.Stand Jvm.LawKit Jvm.RoadKit Bundle Jvm.OwK Jvm.Pilot.@@N@@.Jvm.D
theorem wd {a0 : Array Value} {Z : State} (hw : ∀ d ∈ tables_1, d.before a0 Z = true) (k : Nat) {d : Jvm.Cond} (h : tables_1[k]? = some d) : d.before a0 Z = true := hw _ (List.mem_of_getElem? h)
/-- the statics on which the String laws rest -/
def Gl (Z : State) : Prop := (∃ z : Int32, Sta Z Z.heap "java/lang/String" "COMPACT_STRINGS" "Z" (.int z) ∧ ¬ z = 0) ∧ ∃ v : Value, Sta Z Z.heap "jdk/internal/util/Preconditions" "SIOOBE_FORMATTER" "Ljava/util/function/BiFunction;" v ∧ v.isRef = true
section StrCalls
variable {nw : Prop} {EL : List (String × Nat)} {n0 : Nat} {Z : State} {a0 : Array Value} {p : Program} {l : Launch} {e : Env} {R : Room} {s : State} {args : Array Value} {below : List Frame} {h : Heap} {xs : List Addr} {wt : Nat}
theorem newStr (hE : EW Z a0 EL) (hw : ∀ d ∈ tables_1, d.before a0 Z = true) (G : Gl Z) {x b : Addr} {ka : ClassId} {cs : List Int32} (N : NewS Z h x) (A : CArr Z h b ka cs) (hm : n0 ≤ x ∧ x < h.size) (hx : x ∈ xs) (hp : ∀ c ∈ cs, ¬ c < 0 ∧ ¬ (255 : Int32) < c) (l0 : 0 < cs.length) (l2 : cs.length ≤ 4000) (hfr : 4 ≤ R.frames) (hlo : wt + 65 ≤ R.locals) :
    Call nw EL n0 Z xs l R p e below s args (⟨"java/lang/String", "<init>", "([C)V"⟩ : MethodName) 3 wt #[.ref x, .ref b] h 1 cs.length (RN fun h' => Keep h h' [x] ∧ Str Z h' x cs) := by
  obtain ⟨⟨z, O2, P5⟩, -⟩ := G
  have hws : ∀ d ∈ StrChars.Road.words, d.before a0 Z = true := fun d hd => hw d ((by decide +kernel : ∀ d ∈ StrChars.Road.words, d ∈ tables_1) d hd)
  refine Call.of_back hE (Qb := fun v h' Lc => StrChars.Road.QV Z x (Int32.ofNat cs.length) (cs.map fun c => c.toInt8.toInt32) h n0 v h' Lc) (fun vm0 hZ hO => StrChars.Road.backV (s := s.setVm vm0) hZ hws (kI := 4) (wd hw 10 rfl) (cs := cs) (n := cs.length) hm.1 (old_le hO) N.1 N.2.1 N.2.2 A (O2.ext hO.2) P5 rfl rfl l0 l2 hp rfl hfr hlo) (fun v h' Lc hO q => ?_)
  obtain ⟨q1, q2, q3, q4, q5, t, kb, t1, t2, t3, q6, q7⟩ := q
  exact ⟨⟨q1, q3, q4, q5, ⟨t, kb, q6, q7⟩, hp, l2⟩, q2, [x], q3, by simp [hx]⟩
theorem strLen (hE : EW Z a0 EL) (hw : ∀ d ∈ tables_1, d.before a0 Z = true) (G : Gl Z) {x : Addr} {cs : List Int32} (S : Str Z h x cs) (hfr : 2 ≤ R.frames) (hlo : wt + 25 ≤ R.locals) :
    Call nw EL n0 Z xs l R p e below s args (⟨"java/lang/String", "length", "()I"⟩ : MethodName) 3 wt #[.ref x] h 0 0 (RV fun w h' => w = .int (Int32.ofNat cs.length) ∧ h = h') := by
  obtain ⟨⟨z, O2, P5⟩, -⟩ := G
  obtain ⟨E, C, ⟨b, k, V, A⟩, hp, hl⟩ := S
  have hws : ∀ d ∈ StrChars.Road.wordsLen, d.before a0 Z = true := fun d hd => hw d ((by decide +kernel : ∀ d ∈ StrChars.Road.wordsLen, d ∈ tables_1) d hd)
  refine Call.of_back hE (Qb := fun v h' Lc => v = some (.int (Int32.ofNat cs.length)) ∧ Lc = [] ∧ h' = h) (fun vm0 hZ hO => StrChars.Road.lenW (s := s.setVm vm0) hZ hws (kI := 4) (wd hw 10 rfl) E V C A (StrChars.Road.codOf (n := cs.length) rfl (fun c hc => (hp c hc).2)) (up_chars cs hp) (O2.ext hO.2) P5 hl hfr hlo) (fun v h' Lc hO q => ?_)
  obtain ⟨rfl, rfl, rfl⟩ := q
  exact ⟨⟨_, rfl, rfl, rfl⟩, Fr.nil _, [], Keep.refl _ _, fun _ q => nomatch q⟩
theorem strAt (hE : EW Z a0 EL) (hw : ∀ d ∈ tables_1, d.before a0 Z = true) (G : Gl Z) {x : Addr} {cs : List Int32} {j : Int32} (i : Nat) (S : Str Z h x cs) (hi : i < cs.length) (hj : j = Int32.ofNat i) (hfr : 4 ≤ R.frames) (hlo : wt + 53 ≤ R.locals) :
    Call nw EL n0 Z xs l R p e below s args (⟨"java/lang/String", "charAt", "(I)C"⟩ : MethodName) 3 wt #[.ref x, .int j] h 0 0 (RV fun w h' => w = .int (cs.getD i 0) ∧ h = h') := by
  obtain ⟨⟨z, O2, P5⟩, ⟨fm, O4, rf⟩⟩ := G
  obtain ⟨E, C, ⟨b, k, V, A⟩, hp, hl⟩ := S
  have hws : ∀ d ∈ StrChars.Road.wordsChN, d.before a0 Z = true := fun d hd => hw d ((by decide +kernel : ∀ d ∈ StrChars.Road.wordsChN, d ∈ tables_1) d hd)
  refine Call.of_back hE (Qb := fun v h' Lc => v = some (.int (cs.getD i 0)) ∧ Lc = [] ∧ h' = h) (fun vm0 hZ hO => StrChars.Road.chN (s := s.setVm vm0) hZ hws (kI := 4) (wd hw 10 rfl) E V C A (StrChars.Road.codOf (n := cs.length) rfl (fun c hc => (hp c hc).2)) (up_chars cs hp) (O2.ext hO.2) P5 (O4.ext hO.2) rf hl hi hj hfr hlo) (fun v h' Lc hO q => ?_)
  obtain ⟨rfl, rfl, rfl⟩ := q
  exact ⟨⟨_, rfl, rfl, rfl⟩, Fr.nil _, [], Keep.refl _ _, fun _ q => nomatch q⟩
end StrCalls
def EL0 : List (String × Nat) := [("com/example/actions_to_pages/actionstopages/RequestPaths", 32), ("java/lang/String", 7)]
abbrev NW : Prop := False
theorem wS {a0 : Array Value} {Z : State} (hw : ∀ d ∈ tables_1, d.before a0 Z = true) : ∀ a ∈ Bundle.stringAtoms, a.before a0 Z = true := fun d hd => hw d ((by decide +kernel : ∀ d ∈ Bundle.stringAtoms, d ∈ tables_1) d hd)
theorem pn_0 : plainName "java/lang/String" = true := by first | (simp [plainName, overriddenIn]; done) | decide +kernel
theorem d_jdk_42_method_149_0 : Dec jdk_42_method_149_code 0 (.aload_n 0) 1 1 := ⟨by decide +kernel, rfl⟩
theorem d_jdk_42_method_149_1 : Dec jdk_42_method_149_code 1 (.invokespecial 1) 3 4 := ⟨by decide +kernel, rfl⟩
theorem d_jdk_42_method_149_4 : Dec jdk_42_method_149_code 4 (.iload_n 3) 1 5 := ⟨by decide +kernel, rfl⟩
theorem d_jdk_42_method_149_5 : Dec jdk_42_method_149_code 5 (.ifCond .ne 22) 3 8 := ⟨by decide +kernel, rfl⟩
theorem d_jdk_42_method_149_8 : Dec jdk_42_method_149_code 8 (.aload_n 0) 1 9 := ⟨by decide +kernel, rfl⟩
theorem d_jdk_42_method_149_9 : Dec jdk_42_method_149_code 9 (.ldc 7) 2 11 := ⟨by decide +kernel, rfl⟩
theorem d_jdk_42_method_149_11 : Dec jdk_42_method_149_code 11 (.getfield 9) 3 14 := ⟨by decide +kernel, rfl⟩
theorem d_jdk_42_method_149_14 : Dec jdk_42_method_149_code 14 (.putfield 9) 3 17 := ⟨by decide +kernel, rfl⟩
theorem d_jdk_42_method_149_17 : Dec jdk_42_method_149_code 17 (.aload_n 0) 1 18 := ⟨by decide +kernel, rfl⟩
theorem d_jdk_42_method_149_18 : Dec jdk_42_method_149_code 18 (.ldc 7) 2 20 := ⟨by decide +kernel, rfl⟩
theorem d_jdk_42_method_149_20 : Dec jdk_42_method_149_code 20 (.getfield 15) 3 23 := ⟨by decide +kernel, rfl⟩
theorem d_jdk_42_method_149_23 : Dec jdk_42_method_149_code 23 (.putfield 15) 3 26 := ⟨by decide +kernel, rfl⟩
theorem d_jdk_42_method_149_26 : Dec jdk_42_method_149_code 26 (.return_) 1 27 := ⟨by decide +kernel, rfl⟩
set_option maxRecDepth 65536 in
set_option maxHeartbeats 40000000 in
theorem c_s149 (l : Launch) (Z : State) (a0 : Array Value) (hw : ∀ d ∈ tables_1, d.before a0 Z = true) (hE : EW Z a0 EL0) {n0 : Nat} {h0 : Heap} (hO : Old Z n0 h0) {x b : Addr} (hx : n0 ≤ x) (N_x : NewS Z h0 x) :
    Ctr NW EL0 n0 Z [x] l (⟨"java/lang/String", "<init>", "([CIILjava/lang/Void;)V"⟩ : MethodName) jdk_42_method_149_code 6 none ({ frames := 1, cells := 4, slots := 8, locals := 17 } : Room) #[.ref x, .ref b, .int 0, .int 0, .null] h0 (RN fun h => Keep h0 h [x] ∧ Str Z h x []) := by
  refine Ctr.body (plainFor_of_name pn_0) hE hO (fun y q => by cases List.mem_singleton.mp q; exact ⟨hx, N_x.1.lt⟩) (L0 := #[.val (.ref x), .val (.ref b), .val (.int (0 : Int32)), .val (.int (0 : Int32)), .val .null, .unset]) (fun m => by first | (simp [entryFrame, mkF, argsToLocals, Value.category, maxLocals]; done) | rfl) ?_
  intro p e s m below meth c T0 W0
  refine Go.aload_n W0.cx d_jdk_42_method_149_0 (v := (.ref x)) rfl rfl ?_
  refine Go.initObj W0 d_jdk_42_method_149_1 (wd hw 19 rfl) (wd hw 20 rfl) (wd hw 21 rfl) rfl (by decide) (wt := 0) rfl (by decide) ?_
  intro T1 W1
  refine Go.iload_n W1.cx d_jdk_42_method_149_4 (v := (0 : Int32)) rfl ?_
  refine Go.ifne W1.cx d_jdk_42_method_149_5 (by decide) (q := 27) rfl (fun hh => (by first | exact absurd (rfl : (0 : Int32) = 0) hh | exact absurd hh (rfl : (0 : Int32) = 0))) (fun _ => ?_)
  refine Go.aload_n W1.cx d_jdk_42_method_149_8 (v := (.ref x)) rfl rfl ?_
  refine Go.ldcS W1 (fun q => q) d_jdk_42_method_149_9 (wd hw 22 rfl) (wS hw) (by decide) (cs := []) ⟨by decide, by decide +kernel⟩ (by decide) (by decide) (nn := 0) (by decide) (by decide) (cells' := 2) (slots' := 4) rfl rfl (by decide) (by decide) ?_
  intro T2 h2 l2 b2 kb2 W2 E2 A2 C2 V2 B2 X2 S2
  have N2 := N_x.ext E2
  refine Go.getf W2 d_jdk_42_method_149_11 (wd hw 28 rfl) Via.refl V2 ?_
  intro T3 W3
  refine Go.putf W3 d_jdk_42_method_149_14 (wd hw 28 rfl) Via.refl N2.2.1 N2.1 (Or.inr ⟨(wd hw 24 rfl), rfl, rfl⟩) (wd hw 10 rfl) (t := (.array .byte)) (by decide) (v' := (.ref b2)) rfl rfl (by simp) ?_
  intro T4 h4 W4 R4
  have B4 := B2.other R4 (Ne.symm (X2 x (by simp)).2)
  have F4 := N2.2.1.same R4
  have M4 := N2.1.wr R4
  have C4 := N2.2.2.other R4 (Or.inr (slot_ne (Or.inr (wd hw 25 rfl)) (Or.inr (wd hw 24 rfl)) (by decide) (t := .byte) (t' := .array .byte) (by decide) (by decide)))
  have Q4 : Keep h0 h4 [x] := ((Keep.refl h0 [x]).ext E2).wr R4 (Or.inl (by simp))
  refine Go.aload_n W4.cx d_jdk_42_method_149_17 (v := (.ref x)) rfl rfl ?_
  refine Go.ldcS W4 (fun q => q) d_jdk_42_method_149_18 (wd hw 22 rfl) (wS hw) (by decide) (cs := []) ⟨by decide, by decide +kernel⟩ (by decide) (by decide) (nn := 0) (by decide) (by decide) (cells' := 4) (slots' := 8) rfl rfl (by decide) (by decide) ?_
  intro T5 h5 l5 b5 kb5 W5 E5 A5 C5 V5 B5 X5 S5
  refine Go.getf W5 d_jdk_42_method_149_20 (wd hw 29 rfl) Via.refl C5 ?_
  intro T6 W6
  refine Go.putf W6 d_jdk_42_method_149_23 (wd hw 29 rfl) Via.refl (C4.ext E5) (M4.ext E5) (Or.inr ⟨(wd hw 25 rfl), rfl, rfl⟩) (wd hw 10 rfl) (t := .byte) (by decide) (v' := (.int 0)) rfl rfl (by simp) ?_
  intro T7 h7 W7 R7
  have F7 := (F4.ext E5).other R7 (Or.inr (slot_ne (Or.inr (wd hw 24 rfl)) (Or.inr (wd hw 25 rfl)) (by decide) (t := .array .byte) (t' := .byte) (by decide) (by decide)))
  have B7 := (B4.ext E5).other R7 (Ne.symm (X2 x (by simp)).2)
  exact Go.vret W7 d_jdk_42_method_149_26 (by decide) (by decide) ⟨rfl, (Q4.ext E5).wr R7 (Or.inl (by simp)), (M4.ext E5).wr R7, (C4.ext E5).same R7, ⟨b2, kb2, F7, B7⟩, all_nil, by decide⟩
theorem d_jdk_42_method_3_0 : Dec jdk_42_method_3_code 0 (.aload_n 0) 1 1 := ⟨by decide +kernel, rfl⟩
theorem d_jdk_42_method_3_1 : Dec jdk_42_method_3_code 1 (.aload_n 1) 1 2 := ⟨by decide +kernel, rfl⟩
theorem d_jdk_42_method_3_2 : Dec jdk_42_method_3_code 2 (.iconst 0) 1 3 := ⟨by decide +kernel, rfl⟩
theorem d_jdk_42_method_3_3 : Dec jdk_42_method_3_code 3 (.aload_n 1) 1 4 := ⟨by decide +kernel, rfl⟩
theorem d_jdk_42_method_3_4 : Dec jdk_42_method_3_code 4 (.arraylength) 1 5 := ⟨by decide +kernel, rfl⟩
theorem d_jdk_42_method_3_5 : Dec jdk_42_method_3_code 5 (.aconst_null) 1 6 := ⟨by decide +kernel, rfl⟩
theorem d_jdk_42_method_3_6 : Dec jdk_42_method_3_code 6 (.invokespecial 27) 3 9 := ⟨by decide +kernel, rfl⟩
theorem pd_0 : parseMethodDescriptor "([CIILjava/lang/Void;)V" = some ⟨[(.array .char), .int, .int, (.object "java/lang/Void")], none⟩ := by decide +kernel
theorem d_jdk_42_method_3_9 : Dec jdk_42_method_3_code 9 (.return_) 1 10 := ⟨by decide +kernel, rfl⟩
set_option maxRecDepth 65536 in
set_option maxHeartbeats 40000000 in
theorem c_s3 (l : Launch) (Z : State) (a0 : Array Value) (hw : ∀ d ∈ tables_1, d.before a0 Z = true) (hE : EW Z a0 EL0) {n0 : Nat} {h0 : Heap} (hO : Old Z n0 h0) {x b : Addr} {ka : ClassId} (hx : n0 ≤ x) (N_x : NewS Z h0 x) (A : CArr Z h0 b ka []) :
    Ctr NW EL0 n0 Z [x] l (⟨"java/lang/String", "<init>", "([C)V"⟩ : MethodName) jdk_42_method_3_code 2 none ({ frames := 2, cells := 4, slots := 8, locals := 34 } : Room) #[.ref x, .ref b] h0 (RN fun h => Keep h0 h [x] ∧ Str Z h x []) := by
  refine Ctr.body (plainFor_of_name pn_0) hE hO (fun y q => by cases List.mem_singleton.mp q; exact ⟨hx, N_x.1.lt⟩) (L0 := #[.val (.ref x), .val (.ref b)]) (fun m => by first | (simp [entryFrame, mkF, argsToLocals, Value.category, maxLocals]; done) | rfl) ?_
  intro p e s m below meth c T0 W0
  refine Go.aload_n W0.cx d_jdk_42_method_3_0 (v := (.ref x)) rfl rfl ?_
  refine Go.aload_n W0.cx d_jdk_42_method_3_1 (v := (.ref b)) rfl rfl ?_
  refine Go.iconst W0.cx d_jdk_42_method_3_2 (z := (0 : Int32)) rfl ?_
  refine Go.aload_n W0.cx d_jdk_42_method_3_3 (v := (.ref b)) rfl rfl ?_
  refine Go.alen W0 d_jdk_42_method_3_4 A ?_
  refine Go.aconst_null W0.cx d_jdk_42_method_3_5 ?_
  refine Go.invi W0 (Ctr.call (wt := 0) (c_s149 l Z a0 hw hE hO hx N_x) W0.ew (wd hw 18 rfl) (wd hw 11 rfl) (by simp) (by decide) (by decide)) d_jdk_42_method_3_6 rfl (wd hw 15 rfl) (wd hw 16 rfl) (wd hw 18 rfl) (by decide) pd_0 rfl rfl (rest := []) rfl (Nat.le_of_eq rfl) (cells' := 4) (slots' := 8) rfl rfl (by decide) (by decide) ?_
  rintro T1 h1 W1 z1 ⟨K1, S1⟩
  exact Go.vret W1 d_jdk_42_method_3_9 (by decide) (by decide) ⟨rfl, K1, S1⟩
theorem d_jdk_42_method_152_0 : Dec jdk_42_method_152_code 0 (.getstatic 38) 3 3 := ⟨by decide +kernel, rfl⟩
theorem d_jdk_42_method_152_3 : Dec jdk_42_method_152_code 3 (.ifCond .eq 10) 3 6 := ⟨by decide +kernel, rfl⟩
theorem d_jdk_42_method_152_6 : Dec jdk_42_method_152_code 6 (.aload_n 0) 1 7 := ⟨by decide +kernel, rfl⟩
theorem d_jdk_42_method_152_7 : Dec jdk_42_method_152_code 7 (.getfield 15) 3 10 := ⟨by decide +kernel, rfl⟩
theorem d_jdk_42_method_152_10 : Dec jdk_42_method_152_code 10 (.goto 4) 3 13 := ⟨by decide +kernel, rfl⟩
theorem d_jdk_42_method_152_14 : Dec jdk_42_method_152_code 14 (.ireturn) 1 15 := ⟨by decide +kernel, rfl⟩
set_option maxRecDepth 65536 in
set_option maxHeartbeats 40000000 in
theorem c_coder (l : Launch) (Z : State) (a0 : Array Value) (hw : ∀ d ∈ tables_1, d.before a0 Z = true) (hE : EW Z a0 EL0) {n0 : Nat} {h0 : Heap} (hO : Old Z n0 h0) (hG : Gl Z) {a : Addr} {cs : List Int32} (S : Str Z h0 a cs) :
    Ctr NW EL0 n0 Z [] l (⟨"java/lang/String", "coder", "()B"⟩ : MethodName) jdk_42_method_152_code 1 (some .byte) ({ frames := 0, cells := 0, slots := 0, locals := 0 } : Room) #[.ref a] h0 (RV fun w h => w = .int 0 ∧ h0 = h) := by
  refine Ctr.body (plainFor_of_name pn_0) hE hO (fun x q => nomatch q) (L0 := #[.val (.ref a)]) (fun m => by first | (simp [entryFrame, mkF, argsToLocals, Value.category, maxLocals]; done) | rfl) ?_
  intro p e s m below meth c T0 W0
  obtain ⟨⟨zc, O2, P5⟩, -⟩ := id hG
  obtain ⟨Ex, Co, -⟩ := id S
  refine Go.gets W0 d_jdk_42_method_152_0 (wd hw 54 rfl) Via.refl O2 ?_
  intro T1 W1
  refine Go.ifeq W1.cx d_jdk_42_method_152_3 (by decide) (q := 13) rfl (fun hh => (by first | exact absurd P5 hh | exact absurd hh P5)) (fun _ => ?_)
  refine Go.aload_n W1.cx d_jdk_42_method_152_6 (v := (.ref a)) rfl rfl ?_
  refine Go.getf W1 d_jdk_42_method_152_7 (wd hw 29 rfl) Via.refl Co ?_
  intro T2 W2
  refine Go.goto W2.cx d_jdk_42_method_152_10 (by decide) (q := 14) rfl ?_
  exact Go.iret W2 d_jdk_42_method_152_14 (by simp) rfl (by decide) (by decide) ⟨_, rfl, rfl, rfl⟩
theorem pn_1 : plainName "jdk/internal/util/ArraysSupport" = true := by first | (simp [plainName, overriddenIn]; done) | decide +kernel
theorem d_jdk_48_method_14_0 : Dec jdk_48_method_14_code 0 (.iconst 0) 1 1 := ⟨by decide +kernel, rfl⟩
theorem d_jdk_48_method_14_1 : Dec jdk_48_method_14_code 1 (.istore 5) 2 3 := ⟨by decide +kernel, rfl⟩
theorem d_jdk_48_method_14_3 : Dec jdk_48_method_14_code 3 (.iload 4) 2 5 := ⟨by decide +kernel, rfl⟩
theorem d_jdk_48_method_14_5 : Dec jdk_48_method_14_code 5 (.bipush 7) 2 7 := ⟨by decide +kernel, rfl⟩
theorem d_jdk_48_method_14_7 : Dec jdk_48_method_14_code 7 (.if_icmp .le 63) 3 10 := ⟨by decide +kernel, rfl⟩
theorem d_jdk_48_method_14_70 : Dec jdk_48_method_14_code 70 (.iload 5) 2 72 := ⟨by decide +kernel, rfl⟩
theorem d_jdk_48_method_14_72 : Dec jdk_48_method_14_code 72 (.iload 4) 2 74 := ⟨by decide +kernel, rfl⟩
theorem d_jdk_48_method_14_74 : Dec jdk_48_method_14_code 74 (.if_icmp .ge 27) 3 77 := ⟨by decide +kernel, rfl⟩
theorem d_jdk_48_method_14_101 : Dec jdk_48_method_14_code 101 (.iconst (-1)) 1 102 := ⟨by decide +kernel, rfl⟩
theorem d_jdk_48_method_14_102 : Dec jdk_48_method_14_code 102 (.ireturn) 1 103 := ⟨by decide +kernel, rfl⟩
theorem d_jdk_48_method_14_77 : Dec jdk_48_method_14_code 77 (.aload_n 0) 1 78 := ⟨by decide +kernel, rfl⟩
theorem d_jdk_48_method_14_78 : Dec jdk_48_method_14_code 78 (.iload_n 1) 1 79 := ⟨by decide +kernel, rfl⟩
theorem d_jdk_48_method_14_79 : Dec jdk_48_method_14_code 79 (.iload 5) 2 81 := ⟨by decide +kernel, rfl⟩
theorem d_jdk_48_method_14_81 : Dec jdk_48_method_14_code 81 (.iadd) 1 82 := ⟨by decide +kernel, rfl⟩
theorem d_jdk_48_method_14_82 : Dec jdk_48_method_14_code 82 (.baload) 1 83 := ⟨by decide +kernel, rfl⟩
theorem d_jdk_48_method_14_83 : Dec jdk_48_method_14_code 83 (.aload_n 2) 1 84 := ⟨by decide +kernel, rfl⟩
theorem d_jdk_48_method_14_84 : Dec jdk_48_method_14_code 84 (.iload_n 3) 1 85 := ⟨by decide +kernel, rfl⟩
theorem d_jdk_48_method_14_85 : Dec jdk_48_method_14_code 85 (.iload 5) 2 87 := ⟨by decide +kernel, rfl⟩
theorem d_jdk_48_method_14_87 : Dec jdk_48_method_14_code 87 (.iadd) 1 88 := ⟨by decide +kernel, rfl⟩
theorem d_jdk_48_method_14_88 : Dec jdk_48_method_14_code 88 (.baload) 1 89 := ⟨by decide +kernel, rfl⟩
theorem d_jdk_48_method_14_89 : Dec jdk_48_method_14_code 89 (.if_icmp .eq 6) 3 92 := ⟨by decide +kernel, rfl⟩
theorem d_jdk_48_method_14_95 : Dec jdk_48_method_14_code 95 (.iinc 5 1) 3 98 := ⟨by decide +kernel, rfl⟩
theorem d_jdk_48_method_14_98 : Dec jdk_48_method_14_code 98 (.goto (-28)) 3 101 := ⟨by decide +kernel, rfl⟩
theorem d_jdk_48_method_14_92 : Dec jdk_48_method_14_code 92 (.iload 5) 2 94 := ⟨by decide +kernel, rfl⟩
theorem d_jdk_48_method_14_94 : Dec jdk_48_method_14_code 94 (.ireturn) 1 95 := ⟨by decide +kernel, rfl⟩
set_option maxRecDepth 65536 in
set_option maxHeartbeats 40000000 in
theorem c_mis (l : Launch) (Z : State) (a0 : Array Value) (hw : ∀ d ∈ tables_1, d.before a0 Z = true) (hE : EW Z a0 EL0) {n0 : Nat} {h0 : Heap} (hO : Old Z n0 h0) {a b : Addr} {ka kb : ClassId} {cs ds : List Int32} {k : Nat} (A : BArr Z h0 a ka cs) (B : BArr Z h0 b kb ds) (hpc : ∀ c ∈ cs, ¬ c < 0 ∧ ¬ (255 : Int32) < c) (hpd : ∀ c ∈ ds, ¬ c < 0 ∧ ¬ (255 : Int32) < c) (hk : k + ds.length ≤ cs.length) (h7 : ds.length ≤ 7) (hcl : cs.length ≤ 4000) :
    Ctr NW EL0 n0 Z [] l (⟨"jdk/internal/util/ArraysSupport", "mismatch", "([BI[BII)I"⟩ : MethodName) jdk_48_method_14_code 8 (some .int) ({ frames := 0, cells := 0, slots := 0, locals := 0 } : Room) #[.ref a, .int (Int32.ofNat k), .ref b, .int (0 : Int32), .int (Int32.ofNat ds.length)] h0 (RV fun w h => ∃ z : Int32, w = .int z ∧ ((z < 0 ∧ Sw cs k ds) ∨ (¬ z < 0 ∧ ¬ Sw cs k ds)) ∧ h0 = h) := by
  refine Ctr.body (plainFor_of_name pn_1) hE hO (fun x q => nomatch q) (L0 := #[.val (.ref a), .val (.int (Int32.ofNat k)), .val (.ref b), .val (.int (0 : Int32)), .val (.int (Int32.ofNat ds.length)), .unset, .unset, .unset]) (fun m => by first | (simp [entryFrame, mkF, argsToLocals, Value.category, maxLocals]; done) | rfl) ?_
  intro p e s m below meth c T0 W0
  refine Go.iconst W0.cx d_jdk_48_method_14_0 (z := (0 : Int32)) rfl ?_
  refine Go.istore W0.cx d_jdk_48_method_14_1 (L' := #[.val (.ref a), .val (.int (Int32.ofNat k)), .val (.ref b), .val (.int (0 : Int32)), .val (.int (Int32.ofNat ds.length)), .val (.int (0 : Int32)), .unset, .unset]) rfl ?_
  refine Go.iload W0.cx d_jdk_48_method_14_3 (v := (Int32.ofNat ds.length)) rfl ?_
  refine Go.bipush W0.cx d_jdk_48_method_14_5 (z := (7 : Int32)) rfl ?_
  refine Go.icle W0.cx d_jdk_48_method_14_7 (by decide) (q := 70) rfl (fun _ => ?_) (fun hh => (by first | exact absurd (show ¬ (7 : Int32) < Int32.ofNat ds.length from fun q => by have := (lt_nat (a := 7) (by omega) (by omega)).mp q; omega) hh | exact absurd hh (show ¬ (7 : Int32) < Int32.ofNat ds.length from fun q => by have := (lt_nat (a := 7) (by omega) (by omega)).mp q; omega)))
  have loop : ∀ j i, i + j = ds.length → (∀ t, t < i → cs.getD (k + t) 0 = ds.getD t 0) → ∀ (T : State), Wk NW EL0 n0 Z a0 "jdk/internal/util/ArraysSupport" "mismatch" jdk_48_method_14_code 8 (some .int) p l e ({ frames := 0, cells := 0, slots := 0, locals := 0 } : Room) s m #[.ref a, .int (Int32.ofNat k), .ref b, .int (0 : Int32), .int (Int32.ofNat ds.length)] below meth c T h0 [] 0 0 → Go p e below (Endp NW EL0 n0 Z below s ({ frames := 0, cells := 0, slots := 0, locals := 0 } : Room).cells ({ frames := 0, cells := 0, slots := 0, locals := 0 } : Room).slots (RV fun w h => ∃ z : Int32, w = .int z ∧ ((z < 0 ∧ Sw cs k ds) ∨ (¬ z < 0 ∧ ¬ Sw cs k ds)) ∧ h0 = h)) T (mkF m 70 #[.val (.ref a), .val (.int (Int32.ofNat k)), .val (.ref b), .val (.int (0 : Int32)), .val (.int (Int32.ofNat ds.length)), .val (.int (Int32.ofNat i)), .unset, .unset] []) := by
    intro j
    induction j with
    | zero =>
      intro i hi hin T1 W1
      refine Go.iload W1.cx d_jdk_48_method_14_70 (v := (Int32.ofNat i)) rfl ?_
      refine Go.iload W1.cx d_jdk_48_method_14_72 (v := (Int32.ofNat ds.length)) rfl ?_
      refine Go.icge W1.cx d_jdk_48_method_14_74 (by decide) (q := 101) rfl (fun _ => ?_) (fun hh => (by first | exact absurd (show ¬ Int32.ofNat i < Int32.ofNat ds.length by rw [lt_nat (by omega) (by omega)]; omega) hh | exact absurd hh (show ¬ Int32.ofNat i < Int32.ofNat ds.length by rw [lt_nat (by omega) (by omega)]; omega)))
      refine Go.iconst W1.cx d_jdk_48_method_14_101 (z := (-1 : Int32)) rfl ?_
      exact Go.iret W1 d_jdk_48_method_14_102 (by simp) rfl (by decide) (by decide) ⟨_, rfl, _, rfl, Or.inl ⟨by decide, hk, fun t ht => hin t (by omega)⟩, rfl⟩
    | succ j ih =>
      intro i hi hin T1 W1
      refine Go.iload W1.cx d_jdk_48_method_14_70 (v := (Int32.ofNat i)) rfl ?_
      refine Go.iload W1.cx d_jdk_48_method_14_72 (v := (Int32.ofNat ds.length)) rfl ?_
      refine Go.icge W1.cx d_jdk_48_method_14_74 (by decide) (q := 101) rfl (fun hh => (by first | exact absurd (show Int32.ofNat i < Int32.ofNat ds.length by rw [lt_nat (by omega) (by omega)]; omega) hh | exact absurd hh (show Int32.ofNat i < Int32.ofNat ds.length by rw [lt_nat (by omega) (by omega)]; omega))) (fun _ => ?_)
      refine Go.aload_n W1.cx d_jdk_48_method_14_77 (v := (.ref a)) rfl rfl ?_
      refine Go.iload_n W1.cx d_jdk_48_method_14_78 (v := (Int32.ofNat k)) rfl ?_
      refine Go.iload W1.cx d_jdk_48_method_14_79 (v := (Int32.ofNat i)) rfl ?_
      refine Go.iadd W1.cx d_jdk_48_method_14_81 ?_
      refine Go.baload W1 (k + i) d_jdk_48_method_14_82 A (add_nat _ _) (by omega) (by omega) (v := (by8 (cs.getD (k + i) 0))) rfl ?_
      refine Go.aload_n W1.cx d_jdk_48_method_14_83 (v := (.ref b)) rfl rfl ?_
      refine Go.iload_n W1.cx d_jdk_48_method_14_84 (v := (0 : Int32)) rfl ?_
      refine Go.iload W1.cx d_jdk_48_method_14_85 (v := (Int32.ofNat i)) rfl ?_
      refine Go.iadd W1.cx d_jdk_48_method_14_87 ?_
      refine Go.baload W1 i d_jdk_48_method_14_88 B (by rw [show (0 : Int32) = Int32.ofNat 0 from rfl, add_nat, Nat.zero_add]) (by omega) (by omega) (v := (by8 (ds.getD i 0))) rfl ?_
      have hq := by8_inj (getD_ch hpc (i := k + i) (by omega)) (getD_ch hpd (i := i) (by omega))
      refine Go.iceq W1.cx d_jdk_48_method_14_89 (by decide) (q := 95) rfl (fun c1 => ?_) (fun c1 => ?_)
      · refine Go.iinc W1.cx d_jdk_48_method_14_95 (z := (Int32.ofNat (i + 1))) (L' := #[.val (.ref a), .val (.int (Int32.ofNat k)), .val (.ref b), .val (.int (0 : Int32)), .val (.int (Int32.ofNat ds.length)), .val (.int (Int32.ofNat (i + 1))), .unset, .unset]) rfl (add1_nat i) rfl ?_
        refine Go.goto W1.cx d_jdk_48_method_14_98 (by decide) (q := 70) rfl ?_
        exact ih (i + 1) (by omega) (fun t ht => by rcases Nat.lt_or_eq_of_le (Nat.le_of_lt_succ ht) with z | z; exact hin t z; rw [z]; exact hq.mp c1) _ W1
      · refine Go.iload W1.cx d_jdk_48_method_14_92 (v := (Int32.ofNat i)) rfl ?_
        exact Go.iret W1 d_jdk_48_method_14_94 (by simp) rfl (by decide) (by decide) ⟨_, rfl, _, rfl, Or.inr ⟨show ¬ Int32.ofNat i < Int32.ofNat 0 by rw [lt_nat (by omega) (by omega)]; omega, fun z => c1 (hq.mpr (z.2 i (by omega)))⟩, rfl⟩
  exact loop ds.length 0 (by omega) (fun t ht => absurd ht (Nat.not_lt_zero _)) _ W0
theorem d_jdk_42_method_75_0 : Dec jdk_42_method_75_code 0 (.iload_n 2) 1 1 := ⟨by decide +kernel, rfl⟩
theorem d_jdk_42_method_75_1 : Dec jdk_42_method_75_code 1 (.ifCond .lt 16) 3 4 := ⟨by decide +kernel, rfl⟩
theorem d_jdk_42_method_75_17 : Dec jdk_42_method_75_code 17 (.iconst 0) 1 18 := ⟨by decide +kernel, rfl⟩
theorem d_jdk_42_method_75_18 : Dec jdk_42_method_75_code 18 (.ireturn) 1 19 := ⟨by decide +kernel, rfl⟩
set_option maxRecDepth 65536 in
set_option maxHeartbeats 40000000 in
theorem c_swN (l : Launch) (Z : State) (a0 : Array Value) (hw : ∀ d ∈ tables_1, d.before a0 Z = true) (hE : EW Z a0 EL0) {n0 : Nat} {h0 : Heap} (hO : Old Z n0 h0) {a b : Addr} {z : Int32} (hz : z < 0) :
    Ctr NW EL0 n0 Z [] l (⟨"java/lang/String", "startsWith", "(Ljava/lang/String;I)Z"⟩ : MethodName) jdk_42_method_75_code 8 (some .boolean) ({ frames := 2, cells := 0, slots := 0, locals := 27 } : Room) #[.ref a, .ref b, .int z] h0 (RV fun w h => w = .int 0 ∧ h0 = h) := by
  refine Ctr.body (plainFor_of_name pn_0) hE hO (fun x q => nomatch q) (L0 := #[.val (.ref a), .val (.ref b), .val (.int z), .unset, .unset, .unset, .unset, .unset]) (fun m => by first | (simp [entryFrame, mkF, argsToLocals, Value.category, maxLocals]; done) | rfl) ?_
  intro p e s m below meth c T0 W0
  refine Go.iload_n W0.cx d_jdk_42_method_75_0 (v := z) rfl ?_
  refine Go.iflt W0.cx d_jdk_42_method_75_1 (by decide) (q := 17) rfl (fun _ => ?_) (fun hh => (by first | exact absurd hz hh | exact absurd hh hz))
  refine Go.iconst W0.cx d_jdk_42_method_75_17 (z := (0 : Int32)) rfl ?_
  exact Go.iret W0 d_jdk_42_method_75_18 (by simp) rfl (by decide) (by decide) ⟨_, rfl, rfl, rfl⟩
theorem d_jdk_42_method_75_4 : Dec jdk_42_method_75_code 4 (.iload_n 2) 1 5 := ⟨by decide +kernel, rfl⟩
theorem d_jdk_42_method_75_5 : Dec jdk_42_method_75_code 5 (.aload_n 0) 1 6 := ⟨by decide +kernel, rfl⟩
theorem d_jdk_42_method_75_6 : Dec jdk_42_method_75_code 6 (.invokevirtual 505) 3 9 := ⟨by decide +kernel, rfl⟩
theorem pd_1 : parseMethodDescriptor "()I" = some ⟨[], some .int⟩ := by decide +kernel
theorem d_jdk_42_method_75_9 : Dec jdk_42_method_75_code 9 (.aload_n 1) 1 10 := ⟨by decide +kernel, rfl⟩
theorem d_jdk_42_method_75_10 : Dec jdk_42_method_75_code 10 (.invokevirtual 505) 3 13 := ⟨by decide +kernel, rfl⟩
theorem d_jdk_42_method_75_13 : Dec jdk_42_method_75_code 13 (.isub) 1 14 := ⟨by decide +kernel, rfl⟩
theorem d_jdk_42_method_75_14 : Dec jdk_42_method_75_code 14 (.if_icmp .le 5) 3 17 := ⟨by decide +kernel, rfl⟩
theorem d_jdk_42_method_75_19 : Dec jdk_42_method_75_code 19 (.aload_n 0) 1 20 := ⟨by decide +kernel, rfl⟩
theorem d_jdk_42_method_75_20 : Dec jdk_42_method_75_code 20 (.getfield 9) 3 23 := ⟨by decide +kernel, rfl⟩
theorem d_jdk_42_method_75_23 : Dec jdk_42_method_75_code 23 (.astore_n 3) 1 24 := ⟨by decide +kernel, rfl⟩
theorem d_jdk_42_method_75_24 : Dec jdk_42_method_75_code 24 (.aload_n 1) 1 25 := ⟨by decide +kernel, rfl⟩
theorem d_jdk_42_method_75_25 : Dec jdk_42_method_75_code 25 (.getfield 9) 3 28 := ⟨by decide +kernel, rfl⟩
theorem d_jdk_42_method_75_28 : Dec jdk_42_method_75_code 28 (.astore 4) 2 30 := ⟨by decide +kernel, rfl⟩
theorem d_jdk_42_method_75_30 : Dec jdk_42_method_75_code 30 (.iconst 0) 1 31 := ⟨by decide +kernel, rfl⟩
theorem d_jdk_42_method_75_31 : Dec jdk_42_method_75_code 31 (.istore 5) 2 33 := ⟨by decide +kernel, rfl⟩
theorem d_jdk_42_method_75_33 : Dec jdk_42_method_75_code 33 (.aload 4) 2 35 := ⟨by decide +kernel, rfl⟩
theorem d_jdk_42_method_75_35 : Dec jdk_42_method_75_code 35 (.arraylength) 1 36 := ⟨by decide +kernel, rfl⟩
theorem d_jdk_42_method_75_36 : Dec jdk_42_method_75_code 36 (.istore 6) 2 38 := ⟨by decide +kernel, rfl⟩
theorem d_jdk_42_method_75_38 : Dec jdk_42_method_75_code 38 (.aload_n 0) 1 39 := ⟨by decide +kernel, rfl⟩
theorem d_jdk_42_method_75_39 : Dec jdk_42_method_75_code 39 (.invokevirtual 335) 3 42 := ⟨by decide +kernel, rfl⟩
theorem pd_2 : parseMethodDescriptor "()B" = some ⟨[], some .byte⟩ := by decide +kernel
theorem d_jdk_42_method_75_42 : Dec jdk_42_method_75_code 42 (.istore 7) 2 44 := ⟨by decide +kernel, rfl⟩
theorem d_jdk_42_method_75_44 : Dec jdk_42_method_75_code 44 (.iload 7) 2 46 := ⟨by decide +kernel, rfl⟩
theorem d_jdk_42_method_75_46 : Dec jdk_42_method_75_code 46 (.aload_n 1) 1 47 := ⟨by decide +kernel, rfl⟩
theorem d_jdk_42_method_75_47 : Dec jdk_42_method_75_code 47 (.invokevirtual 335) 3 50 := ⟨by decide +kernel, rfl⟩
theorem d_jdk_42_method_75_50 : Dec jdk_42_method_75_code 50 (.if_icmp .ne 32) 3 53 := ⟨by decide +kernel, rfl⟩
theorem d_jdk_42_method_75_53 : Dec jdk_42_method_75_code 53 (.iload 7) 2 55 := ⟨by decide +kernel, rfl⟩
theorem d_jdk_42_method_75_55 : Dec jdk_42_method_75_code 55 (.iconst 1) 1 56 := ⟨by decide +kernel, rfl⟩
theorem d_jdk_42_method_75_56 : Dec jdk_42_method_75_code 56 (.if_icmp .ne 7) 3 59 := ⟨by decide +kernel, rfl⟩
theorem d_jdk_42_method_75_63 : Dec jdk_42_method_75_code 63 (.aload_n 3) 1 64 := ⟨by decide +kernel, rfl⟩
theorem d_jdk_42_method_75_64 : Dec jdk_42_method_75_code 64 (.iload_n 2) 1 65 := ⟨by decide +kernel, rfl⟩
theorem d_jdk_42_method_75_65 : Dec jdk_42_method_75_code 65 (.aload 4) 2 67 := ⟨by decide +kernel, rfl⟩
theorem d_jdk_42_method_75_67 : Dec jdk_42_method_75_code 67 (.iconst 0) 1 68 := ⟨by decide +kernel, rfl⟩
theorem d_jdk_42_method_75_68 : Dec jdk_42_method_75_code 68 (.iload 6) 2 70 := ⟨by decide +kernel, rfl⟩
theorem d_jdk_42_method_75_70 : Dec jdk_42_method_75_code 70 (.invokestatic 607) 3 73 := ⟨by decide +kernel, rfl⟩
theorem pd_3 : parseMethodDescriptor "([BI[BII)I" = some ⟨[(.array .byte), .int, (.array .byte), .int, .int], some .int⟩ := by decide +kernel
theorem d_jdk_42_method_75_73 : Dec jdk_42_method_75_code 73 (.ifCond .ge 7) 3 76 := ⟨by decide +kernel, rfl⟩
theorem d_jdk_42_method_75_80 : Dec jdk_42_method_75_code 80 (.iconst 0) 1 81 := ⟨by decide +kernel, rfl⟩
theorem d_jdk_42_method_75_81 : Dec jdk_42_method_75_code 81 (.ireturn) 1 82 := ⟨by decide +kernel, rfl⟩
theorem d_jdk_42_method_75_76 : Dec jdk_42_method_75_code 76 (.iconst 1) 1 77 := ⟨by decide +kernel, rfl⟩
theorem d_jdk_42_method_75_77 : Dec jdk_42_method_75_code 77 (.goto 4) 3 80 := ⟨by decide +kernel, rfl⟩
set_option maxRecDepth 65536 in
set_option maxHeartbeats 40000000 in
theorem c_sw (l : Launch) (Z : State) (a0 : Array Value) (hw : ∀ d ∈ tables_1, d.before a0 Z = true) (hE : EW Z a0 EL0) {n0 : Nat} {h0 : Heap} (hO : Old Z n0 h0) (hG : Gl Z) {a b : Addr} {cs ds : List Int32} (S : Str Z h0 a cs) (S2 : Str Z h0 b ds) {k : Nat} (hk4 : k ≤ 4000) (h7 : ds.length ≤ 7) :
    Ctr NW EL0 n0 Z [] l (⟨"java/lang/String", "startsWith", "(Ljava/lang/String;I)Z"⟩ : MethodName) jdk_42_method_75_code 8 (some .boolean) ({ frames := 2, cells := 0, slots := 0, locals := 27 } : Room) #[.ref a, .ref b, .int (Int32.ofNat k)] h0 (RV fun w h => ∃ z : Int32, w = .int z ∧ Bo (Sw cs k ds) z ∧ h0 = h) := by
  refine Ctr.body (plainFor_of_name pn_0) hE hO (fun x q => nomatch q) (L0 := #[.val (.ref a), .val (.ref b), .val (.int (Int32.ofNat k)), .unset, .unset, .unset, .unset, .unset]) (fun m => by first | (simp [entryFrame, mkF, argsToLocals, Value.category, maxLocals]; done) | rfl) ?_
  intro p e s m below meth c T0 W0
  have hl1 := S.2.2.2.2
  have hl2 := S2.2.2.2.2
  refine Go.iload_n W0.cx d_jdk_42_method_75_0 (v := (Int32.ofNat k)) rfl ?_
  refine Go.iflt W0.cx d_jdk_42_method_75_1 (by decide) (q := 17) rfl (fun hh => (by first | exact absurd (show ¬ Int32.ofNat k < Int32.ofNat 0 by rw [lt_nat (by omega) (by omega)]; omega) hh | exact absurd hh (show ¬ Int32.ofNat k < Int32.ofNat 0 by rw [lt_nat (by omega) (by omega)]; omega))) (fun _ => ?_)
  refine Go.iload_n W0.cx d_jdk_42_method_75_4 (v := (Int32.ofNat k)) rfl ?_
  refine Go.aload_n W0.cx d_jdk_42_method_75_5 (v := (.ref a)) rfl rfl ?_
  refine Go.invv1 W0 (strLen (wt := 1) W0.ew hw hG S (by decide) (by decide)) d_jdk_42_method_75_6 (wd hw 44 rfl) (wd hw 45 rfl) (wd hw 47 rfl) (wd hw 46 rfl) (by decide) S.exa pd_1 rfl rfl (rest := [(.int (Int32.ofNat k))]) rfl (Nat.le_of_eq rfl) (cells' := 0) (slots' := 0) rfl rfl (by decide) (by decide) ?_
  rintro T1 h1 _ W1 z1 ⟨rfl, e1⟩
  subst e1
  refine Go.aload_n W1.cx d_jdk_42_method_75_9 (v := (.ref b)) rfl rfl ?_
  refine Go.invv1 W1 (strLen (wt := 2) W1.ew hw hG S2 (by decide) (by decide)) d_jdk_42_method_75_10 (wd hw 44 rfl) (wd hw 45 rfl) (wd hw 47 rfl) (wd hw 46 rfl) (by decide) S2.exa pd_1 rfl rfl (rest := [(.int (Int32.ofNat cs.length)), (.int (Int32.ofNat k))]) rfl (Nat.le_of_eq rfl) (cells' := 0) (slots' := 0) rfl rfl (by decide) (by decide) ?_
  rintro T2 h2 _ W2 z2 ⟨rfl, e2⟩
  subst e2
  refine Go.isub W2.cx d_jdk_42_method_75_13 ?_
  have hle : Int32.ofNat cs.length - Int32.ofNat ds.length < Int32.ofNat k ↔ cs.length < k + ds.length := by rw [Int32.lt_iff_toInt_lt, sub_int (by omega) (by omega), toInt_nat (by omega)]; omega
  refine Go.icle W2.cx d_jdk_42_method_75_14 (by decide) (q := 19) rfl (fun c1 => ?_) (fun c1 => ?_)
  · have hk : k + ds.length ≤ cs.length := Nat.not_lt.mp (fun z => c1 (hle.mpr z))
    obtain ⟨-, -, ⟨b1, kb1, V1, B1⟩, hpc, -⟩ := id S
    obtain ⟨-, -, ⟨b2, kb2, V2, B2⟩, hpd, -⟩ := id S2
    refine Go.aload_n W2.cx d_jdk_42_method_75_19 (v := (.ref a)) rfl rfl ?_
    refine Go.getf W2 d_jdk_42_method_75_20 (wd hw 28 rfl) Via.refl V1 ?_
    intro T3 W3
    refine Go.astore_n W3.cx d_jdk_42_method_75_23 (L' := #[.val (.ref a), .val (.ref b), .val (.int (Int32.ofNat k)), .val (.ref b1), .unset, .unset, .unset, .unset]) rfl rfl ?_
    refine Go.aload_n W3.cx d_jdk_42_method_75_24 (v := (.ref b)) rfl rfl ?_
    refine Go.getf W3 d_jdk_42_method_75_25 (wd hw 28 rfl) Via.refl V2 ?_
    intro T4 W4
    refine Go.astore W4.cx d_jdk_42_method_75_28 (L' := #[.val (.ref a), .val (.ref b), .val (.int (Int32.ofNat k)), .val (.ref b1), .val (.ref b2), .unset, .unset, .unset]) rfl rfl ?_
    refine Go.iconst W4.cx d_jdk_42_method_75_30 (z := (0 : Int32)) rfl ?_
    refine Go.istore W4.cx d_jdk_42_method_75_31 (L' := #[.val (.ref a), .val (.ref b), .val (.int (Int32.ofNat k)), .val (.ref b1), .val (.ref b2), .val (.int (0 : Int32)), .unset, .unset]) rfl ?_
    refine Go.aload W4.cx d_jdk_42_method_75_33 (v := (.ref b2)) rfl rfl ?_
    refine Go.alen W4 d_jdk_42_method_75_35 B2 ?_
    refine Go.istore W4.cx d_jdk_42_method_75_36 (L' := #[.val (.ref a), .val (.ref b), .val (.int (Int32.ofNat k)), .val (.ref b1), .val (.ref b2), .val (.int (0 : Int32)), .val (.int (Int32.ofNat ds.length)), .unset]) rfl ?_
    refine Go.aload_n W4.cx d_jdk_42_method_75_38 (v := (.ref a)) rfl rfl ?_
    refine Go.invv1 W4 (Ctr.call (wt := 0) (c_coder l Z a0 hw hE W4.old hG S) W4.ew (wd hw 53 rfl) (wd hw 11 rfl) (by simp) (by decide) (by decide)) d_jdk_42_method_75_39 (wd hw 49 rfl) (wd hw 50 rfl) (wd hw 52 rfl) (wd hw 51 rfl) (by decide) S.exa pd_2 rfl rfl (rest := []) rfl (Nat.le_of_eq rfl) (cells' := 0) (slots' := 0) rfl rfl (by decide) (by decide) ?_
    rintro T5 h5 _ W5 z5 ⟨rfl, e5⟩
    subst e5
    refine Go.istore W5.cx d_jdk_42_method_75_42 (L' := #[.val (.ref a), .val (.ref b), .val (.int (Int32.ofNat k)), .val (.ref b1), .val (.ref b2), .val (.int (0 : Int32)), .val (.int (Int32.ofNat ds.length)), .val (.int (0 : Int32))]) rfl ?_
    refine Go.iload W5.cx d_jdk_42_method_75_44 (v := (0 : Int32)) rfl ?_
    refine Go.aload_n W5.cx d_jdk_42_method_75_46 (v := (.ref b)) rfl rfl ?_
    refine Go.invv1 W5 (Ctr.call (wt := 1) (c_coder l Z a0 hw hE W5.old hG S2) W5.ew (wd hw 53 rfl) (wd hw 11 rfl) (by simp) (by decide) (by decide)) d_jdk_42_method_75_47 (wd hw 49 rfl) (wd hw 50 rfl) (wd hw 52 rfl) (wd hw 51 rfl) (by decide) S2.exa pd_2 rfl rfl (rest := [(.int (0 : Int32))]) rfl (Nat.le_of_eq rfl) (cells' := 0) (slots' := 0) rfl rfl (by decide) (by decide) ?_
    rintro T6 h6 _ W6 z6 ⟨rfl, e6⟩
    subst e6
    refine Go.icne W6.cx d_jdk_42_method_75_50 (by decide) (q := 82) rfl (fun hh => (by first | exact absurd (rfl : (0 : Int32) = 0) hh | exact absurd hh (rfl : (0 : Int32) = 0))) (fun _ => ?_)
    refine Go.iload W6.cx d_jdk_42_method_75_53 (v := (0 : Int32)) rfl ?_
    refine Go.iconst W6.cx d_jdk_42_method_75_55 (z := (1 : Int32)) rfl ?_
    refine Go.icne W6.cx d_jdk_42_method_75_56 (by decide) (q := 63) rfl (fun _ => ?_) (fun hh => (by first | exact absurd (by decide : ¬ (0 : Int32) = 1) hh | exact absurd hh (by decide : ¬ (0 : Int32) = 1)))
    refine Go.aload_n W6.cx d_jdk_42_method_75_63 (v := (.ref b1)) rfl rfl ?_
    refine Go.iload_n W6.cx d_jdk_42_method_75_64 (v := (Int32.ofNat k)) rfl ?_
    refine Go.aload W6.cx d_jdk_42_method_75_65 (v := (.ref b2)) rfl rfl ?_
    refine Go.iconst W6.cx d_jdk_42_method_75_67 (z := (0 : Int32)) rfl ?_
    refine Go.iload W6.cx d_jdk_42_method_75_68 (v := (Int32.ofNat ds.length)) rfl ?_
    refine Go.invs1 W6 (Ctr.call (wt := 0) (c_mis l Z a0 hw hE W6.old (k := k) B1 B2 hpc hpd hk h7 hl1) W6.ew (wd hw 58 rfl) (wd hw 57 rfl) (by simp) (by decide) (by decide)) d_jdk_42_method_75_70 (wd hw 55 rfl) (wd hw 56 rfl) (wd hw 57 rfl) (wd hw 58 rfl) (by decide) pd_3 rfl rfl (rest := []) rfl (Nat.le_of_eq rfl) (cells' := 0) (slots' := 0) rfl rfl (by decide) (by decide) ?_
    rintro T7 h7 _ W7 z7 ⟨y7, rfl, M7, e7⟩
    subst e7
    refine Go.ifge W7.cx d_jdk_42_method_75_73 (by decide) (q := 80) rfl (fun c2 => ?_) (fun c2 => ?_)
    · refine Go.iconst W7.cx d_jdk_42_method_75_80 (z := (0 : Int32)) rfl ?_
      exact Go.iret W7 d_jdk_42_method_75_81 (by simp) rfl (by decide) (by decide) ⟨_, rfl, _, rfl, Bo.ff (M7.elim (fun u => absurd u.1 c2) (fun u => u.2)), rfl⟩
    · refine Go.iconst W7.cx d_jdk_42_method_75_76 (z := (1 : Int32)) rfl ?_
      refine Go.goto W7.cx d_jdk_42_method_75_77 (by decide) (q := 81) rfl ?_
      exact Go.iret W7 d_jdk_42_method_75_81 (by simp) rfl (by decide) (by decide) ⟨_, rfl, _, rfl, Bo.tt (M7.elim (fun u => u.2) (fun u => absurd c2 u.1)), rfl⟩
  · refine Go.iconst W2.cx d_jdk_42_method_75_17 (z := (0 : Int32)) rfl ?_
    exact Go.iret W2 d_jdk_42_method_75_18 (by simp) rfl (by decide) (by decide) ⟨_, rfl, _, rfl, Bo.ff (fun z => absurd (hle.mp c1) (Nat.not_lt.mpr z.1)), rfl⟩
theorem d_jdk_42_method_76_0 : Dec jdk_42_method_76_code 0 (.aload_n 0) 1 1 := ⟨by decide +kernel, rfl⟩
theorem d_jdk_42_method_76_1 : Dec jdk_42_method_76_code 1 (.aload_n 1) 1 2 := ⟨by decide +kernel, rfl⟩
theorem d_jdk_42_method_76_2 : Dec jdk_42_method_76_code 2 (.iconst 0) 1 3 := ⟨by decide +kernel, rfl⟩
theorem d_jdk_42_method_76_3 : Dec jdk_42_method_76_code 3 (.invokevirtual 624) 3 6 := ⟨by decide +kernel, rfl⟩
theorem pd_4 : parseMethodDescriptor "(Ljava/lang/String;I)Z" = some ⟨[(.object "java/lang/String"), .int], some .boolean⟩ := by decide +kernel
theorem d_jdk_42_method_76_6 : Dec jdk_42_method_76_code 6 (.ireturn) 1 7 := ⟨by decide +kernel, rfl⟩
set_option maxRecDepth 65536 in
set_option maxHeartbeats 40000000 in
theorem c_sw1 (l : Launch) (Z : State) (a0 : Array Value) (hw : ∀ d ∈ tables_1, d.before a0 Z = true) (hE : EW Z a0 EL0) {n0 : Nat} {h0 : Heap} (hO : Old Z n0 h0) (hG : Gl Z) {a b : Addr} {cs ds : List Int32} (S : Str Z h0 a cs) (S2 : Str Z h0 b ds) (h7 : ds.length ≤ 7) :
    Ctr NW EL0 n0 Z [] l (⟨"java/lang/String", "startsWith", "(Ljava/lang/String;)Z"⟩ : MethodName) jdk_42_method_76_code 2 (some .boolean) ({ frames := 3, cells := 0, slots := 0, locals := 46 } : Room) #[.ref a, .ref b] h0 (RV fun w h => ∃ z : Int32, w = .int z ∧ Bo (Sw cs 0 ds) z ∧ h0 = h) := by
  refine Ctr.body (plainFor_of_name pn_0) hE hO (fun x q => nomatch q) (L0 := #[.val (.ref a), .val (.ref b)]) (fun m => by first | (simp [entryFrame, mkF, argsToLocals, Value.category, maxLocals]; done) | rfl) ?_
  intro p e s m below meth c T0 W0
  refine Go.aload_n W0.cx d_jdk_42_method_76_0 (v := (.ref a)) rfl rfl ?_
  refine Go.aload_n W0.cx d_jdk_42_method_76_1 (v := (.ref b)) rfl rfl ?_
  refine Go.iconst W0.cx d_jdk_42_method_76_2 (z := (0 : Int32)) rfl ?_
  refine Go.invv1 W0 (Ctr.call (wt := 0) (c_sw l Z a0 hw hE W0.old hG (k := 0) S S2 (by omega) h7) W0.ew (wd hw 43 rfl) (wd hw 11 rfl) (by simp) (by decide) (by decide)) d_jdk_42_method_76_3 (wd hw 39 rfl) (wd hw 40 rfl) (wd hw 42 rfl) (wd hw 41 rfl) (by decide) S.exa pd_4 rfl rfl (rest := []) rfl (Nat.le_of_eq rfl) (cells' := 0) (slots' := 0) rfl rfl (by decide) (by decide) ?_
  rintro T1 h1 _ W1 z1 ⟨y1, rfl, B1, e1⟩
  subst e1
  exact Go.iret W1 d_jdk_42_method_76_6 (by simp) B1.nar (by decide) (by decide) ⟨_, rfl, _, rfl, B1, rfl⟩
theorem d_jdk_42_method_77_0 : Dec jdk_42_method_77_code 0 (.aload_n 0) 1 1 := ⟨by decide +kernel, rfl⟩
theorem d_jdk_42_method_77_1 : Dec jdk_42_method_77_code 1 (.aload_n 1) 1 2 := ⟨by decide +kernel, rfl⟩
theorem d_jdk_42_method_77_2 : Dec jdk_42_method_77_code 2 (.aload_n 0) 1 3 := ⟨by decide +kernel, rfl⟩
theorem d_jdk_42_method_77_3 : Dec jdk_42_method_77_code 3 (.invokevirtual 505) 3 6 := ⟨by decide +kernel, rfl⟩
theorem d_jdk_42_method_77_6 : Dec jdk_42_method_77_code 6 (.aload_n 1) 1 7 := ⟨by decide +kernel, rfl⟩
theorem d_jdk_42_method_77_7 : Dec jdk_42_method_77_code 7 (.invokevirtual 505) 3 10 := ⟨by decide +kernel, rfl⟩
theorem d_jdk_42_method_77_10 : Dec jdk_42_method_77_code 10 (.isub) 1 11 := ⟨by decide +kernel, rfl⟩
theorem d_jdk_42_method_77_11 : Dec jdk_42_method_77_code 11 (.invokevirtual 624) 3 14 := ⟨by decide +kernel, rfl⟩
theorem d_jdk_42_method_77_14 : Dec jdk_42_method_77_code 14 (.ireturn) 1 15 := ⟨by decide +kernel, rfl⟩
set_option maxRecDepth 65536 in
set_option maxHeartbeats 40000000 in
theorem c_ew (l : Launch) (Z : State) (a0 : Array Value) (hw : ∀ d ∈ tables_1, d.before a0 Z = true) (hE : EW Z a0 EL0) {n0 : Nat} {h0 : Heap} (hO : Old Z n0 h0) (hG : Gl Z) {a b : Addr} {cs ds : List Int32} (S : Str Z h0 a cs) (S2 : Str Z h0 b ds) (h7 : ds.length ≤ 7) :
    Ctr NW EL0 n0 Z [] l (⟨"java/lang/String", "endsWith", "(Ljava/lang/String;)Z"⟩ : MethodName) jdk_42_method_77_code 2 (some .boolean) ({ frames := 3, cells := 0, slots := 0, locals := 46 } : Room) #[.ref a, .ref b] h0 (RV fun w h => ∃ z : Int32, w = .int z ∧ Bo (ds.length ≤ cs.length ∧ Sw cs (cs.length - ds.length) ds) z ∧ h0 = h) := by
  refine Ctr.body (plainFor_of_name pn_0) hE hO (fun x q => nomatch q) (L0 := #[.val (.ref a), .val (.ref b)]) (fun m => by first | (simp [entryFrame, mkF, argsToLocals, Value.category, maxLocals]; done) | rfl) ?_
  intro p e s m below meth c T0 W0
  have hl1 := S.2.2.2.2
  have hl2 := S2.2.2.2.2
  refine Go.aload_n W0.cx d_jdk_42_method_77_0 (v := (.ref a)) rfl rfl ?_
  refine Go.aload_n W0.cx d_jdk_42_method_77_1 (v := (.ref b)) rfl rfl ?_
  refine Go.aload_n W0.cx d_jdk_42_method_77_2 (v := (.ref a)) rfl rfl ?_
  refine Go.invv1 W0 (strLen (wt := 2) W0.ew hw hG S (by decide) (by decide)) d_jdk_42_method_77_3 (wd hw 44 rfl) (wd hw 45 rfl) (wd hw 47 rfl) (wd hw 46 rfl) (by decide) S.exa pd_1 rfl rfl (rest := [(.ref b), (.ref a)]) rfl (Nat.le_of_eq rfl) (cells' := 0) (slots' := 0) rfl rfl (by decide) (by decide) ?_
  rintro T1 h1 _ W1 z1 ⟨rfl, e1⟩
  subst e1
  refine Go.aload_n W1.cx d_jdk_42_method_77_6 (v := (.ref b)) rfl rfl ?_
  refine Go.invv1 W1 (strLen (wt := 3) W1.ew hw hG S2 (by decide) (by decide)) d_jdk_42_method_77_7 (wd hw 44 rfl) (wd hw 45 rfl) (wd hw 47 rfl) (wd hw 46 rfl) (by decide) S2.exa pd_1 rfl rfl (rest := [(.int (Int32.ofNat cs.length)), (.ref b), (.ref a)]) rfl (Nat.le_of_eq rfl) (cells' := 0) (slots' := 0) rfl rfl (by decide) (by decide) ?_
  rintro T2 h2 _ W2 z2 ⟨rfl, e2⟩
  subst e2
  refine Go.isub W2.cx d_jdk_42_method_77_10 ?_
  by_cases hle : ds.length ≤ cs.length
  · refine Go.top (sub_nat (by omega) hle) ?_
    refine Go.invv1 W2 (Ctr.call (wt := 0) (c_sw l Z a0 hw hE W2.old hG (k := cs.length - ds.length) S S2 (by omega) h7) W2.ew (wd hw 43 rfl) (wd hw 11 rfl) (by simp) (by decide) (by decide)) d_jdk_42_method_77_11 (wd hw 39 rfl) (wd hw 40 rfl) (wd hw 42 rfl) (wd hw 41 rfl) (by decide) S.exa pd_4 rfl rfl (rest := []) rfl (Nat.le_of_eq rfl) (cells' := 0) (slots' := 0) rfl rfl (by decide) (by decide) ?_
    rintro T3 h3 _ W3 z3 ⟨y3, rfl, B3, e3⟩
    subst e3
    exact Go.iret W3 d_jdk_42_method_77_14 (by simp) B3.nar (by decide) (by decide) ⟨_, rfl, _, rfl, B3.iff ⟨fun z => ⟨hle, z⟩, fun z => z.2⟩, rfl⟩
  · have hz : Int32.ofNat cs.length - Int32.ofNat ds.length < 0 := by rw [Int32.lt_iff_toInt_lt, sub_int (by omega) (by omega)]; show _ < (0 : Int); omega
    refine Go.invv1 W2 (Ctr.call (wt := 0) (c_swN l Z a0 hw hE W2.old hz) W2.ew (wd hw 43 rfl) (wd hw 11 rfl) (by simp) (by decide) (by decide)) d_jdk_42_method_77_11 (wd hw 39 rfl) (wd hw 40 rfl) (wd hw 42 rfl) (wd hw 41 rfl) (by decide) S.exa pd_4 rfl rfl (rest := []) rfl (Nat.le_of_eq rfl) (cells' := 0) (slots' := 0) rfl rfl (by decide) (by decide) ?_
    rintro T4 h4 _ W4 z4 ⟨rfl, e4⟩
    subst e4
    exact Go.iret W4 d_jdk_42_method_77_14 (by simp) rfl (by decide) (by decide) ⟨_, rfl, _, rfl, Bo.ff (fun z => hle z.1), rfl⟩
theorem ne_ge {x b : Addr} {h : Heap} (l : x < h.size) (g : h.size ≤ b) : b ≠ x := fun e => by subst e; exact absurd l (Nat.not_lt.mpr g)
theorem tk1 {cs : List Int32} (h : 1 ≤ cs.length) : cs.take 1 = [cs.getD 0 0] := by
  match cs, h with
  | a :: r, _ => simp
theorem tk2 {cs : List Int32} (h : 2 ≤ cs.length) : cs.take 2 = [cs.getD 0 0, cs.getD 1 0] := by
  match cs, h with
  | a :: b :: r, _ => simp
theorem tk3 {cs : List Int32} (h : 3 ≤ cs.length) : cs.take 3 = [cs.getD 0 0, cs.getD 1 0, cs.getD 2 0] := by
  match cs, h with
  | a :: b :: c :: r, _ => simp
theorem tk4 {cs : List Int32} (h : 4 ≤ cs.length) : cs.take 4 = [cs.getD 0 0, cs.getD 1 0, cs.getD 2 0, cs.getD 3 0] := by
  match cs, h with
  | a :: b :: c :: d :: r, _ => simp
theorem mask75 (x : Int32) : ∃ k : Nat, k < 5 ∧ (x &&& (7 : Int32)) % (5 : Int32) = Int32.ofNat k := by
  obtain ⟨j, hj, e⟩ := and_nat x (7 : Int32) (k := 7) rfl (by decide)
  exact ⟨j % 5, Nat.mod_lt _ (by decide), rem_nat e (by omega) (by decide) (by decide)⟩
def Under (cs ds : List Int32) : Prop := Sw cs 0 ds ∧ (cs.length = ds.length ∨ (([47] : List Int32).length ≤ ds.length ∧ Sw ds (ds.length - ([47] : List Int32).length) [47]) ∨ cs.getD ds.length 0 = 47)
def Pfx (P B : List Int32) (pl bl : Nat) : Prop := bl ≤ pl ∧ ∀ i, i < bl → P.getD i 0 = B.getD i 0
def Expd (P B : List Int32) (pl bl : Nat) : Prop := Pfx P B pl bl ∧ (pl = bl ∨ (0 < bl ∧ B.getD (bl - 1) 0 = 47) ∨ P.getD bl 0 = 47)
theorem under_iff {P B : List Int32} {pl bl : Nat} (hP : P.length = 4) (hB : B.length = 3) (hpl : pl ≤ 4) (hbl : bl ≤ 3) : Under (P.take pl) (B.take bl) ↔ Expd P B pl bl := by
  have l1 : (P.take pl).length = pl := by rw [List.length_take]; omega
  have l2 : (B.take bl).length = bl := by rw [List.length_take]; omega
  have a1 : Sw (P.take pl) 0 (B.take bl) ↔ Pfx P B pl bl := by
    unfold Sw Pfx
    rw [l1, l2, Nat.zero_add]
    constructor
    · rintro ⟨h1, h2⟩
      refine ⟨h1, fun i hi => ?_⟩
      have := h2 i hi
      rwa [getD_take, getD_take, if_pos (by omega), if_pos hi, Nat.zero_add] at this
    · rintro ⟨h1, h2⟩
      refine ⟨h1, fun i hi => ?_⟩
      rw [getD_take, getD_take, if_pos (by omega), if_pos hi, Nat.zero_add]
      exact h2 i hi
  have a2 : (([47] : List Int32).length ≤ (B.take bl).length ∧ Sw (B.take bl) ((B.take bl).length - ([47] : List Int32).length) [47]) ↔ (0 < bl ∧ B.getD (bl - 1) 0 = 47) := by
    unfold Sw
    rw [l2]
    constructor
    · rintro ⟨h1, h2, h3⟩
      have h1 : 1 ≤ bl := h1
      have := h3 0 (by simp)
      rw [getD_take] at this
      rw [if_pos (show bl - ([47] : List Int32).length + 0 < bl by show bl - 1 + 0 < bl; omega)] at this
      exact ⟨h1, this⟩
    · rintro ⟨h1, h2⟩
      refine ⟨h1, by show bl - 1 + 1 ≤ bl; omega, fun i hi => ?_⟩
      obtain rfl : i = 0 := by simpa using hi
      rw [getD_take, if_pos (show bl - ([47] : List Int32).length + 0 < bl by show bl - 1 + 0 < bl; omega)]
      exact h2
  unfold Under Expd
  rw [a1, a2, l1, l2]
  constructor
  · rintro ⟨h1, h2⟩
    refine ⟨h1, ?_⟩
    rcases h2 with h2 | h2 | h2
    · exact Or.inl h2
    · exact Or.inr (Or.inl h2)
    · by_cases e : pl = bl
      · exact Or.inl e
      · rw [getD_take, if_pos (by have := h1.1; omega)] at h2
        exact Or.inr (Or.inr h2)
  · rintro ⟨h1, h2⟩
    refine ⟨h1, ?_⟩
    rcases h2 with h2 | h2 | h2
    · exact Or.inl h2
    · exact Or.inr (Or.inl h2)
    · by_cases e : pl = bl
      · exact Or.inl e
      · rw [getD_take, if_pos (by have := h1.1; omega)]
        exact Or.inr (Or.inr h2)
theorem pn_2 : plainName "com/example/actions_to_pages/actionstopages/RequestPathsIsUnderPinLaw" = true := by first | (simp [plainName, overriddenIn]; done) | decide +kernel
theorem d_method_3_0 : Dec method_3_code 0 (.lload_n 0) 1 1 := ⟨by decide +kernel, rfl⟩
theorem d_method_3_1 : Dec method_3_code 1 (.bipush 10) 2 3 := ⟨by decide +kernel, rfl⟩
theorem d_method_3_3 : Dec method_3_code 3 (.iload_n 2) 1 4 := ⟨by decide +kernel, rfl⟩
theorem d_method_3_4 : Dec method_3_code 4 (.imul) 1 5 := ⟨by decide +kernel, rfl⟩
theorem d_method_3_5 : Dec method_3_code 5 (.lushr) 1 6 := ⟨by decide +kernel, rfl⟩
theorem d_method_3_6 : Dec method_3_code 6 (.ldc2_w 23) 3 9 := ⟨by decide +kernel, rfl⟩
theorem d_method_3_9 : Dec method_3_code 9 (.land) 1 10 := ⟨by decide +kernel, rfl⟩
theorem d_method_3_10 : Dec method_3_code 10 (.l2i) 1 11 := ⟨by decide +kernel, rfl⟩
theorem d_method_3_11 : Dec method_3_code 11 (.istore_n 3) 1 12 := ⟨by decide +kernel, rfl⟩
theorem d_method_3_12 : Dec method_3_code 12 (.iload_n 3) 1 13 := ⟨by decide +kernel, rfl⟩
theorem d_method_3_13 : Dec method_3_code 13 (.bipush 8) 2 15 := ⟨by decide +kernel, rfl⟩
theorem d_method_3_15 : Dec method_3_code 15 (.iushr) 1 16 := ⟨by decide +kernel, rfl⟩
theorem d_method_3_16 : Dec method_3_code 16 (.istore 4) 2 18 := ⟨by decide +kernel, rfl⟩
theorem d_method_3_18 : Dec method_3_code 18 (.iload 4) 2 20 := ⟨by decide +kernel, rfl⟩
theorem d_method_3_20 : Dec method_3_code 20 (.ifCond .ne 6) 3 23 := ⟨by decide +kernel, rfl⟩
theorem d_method_3_26 : Dec method_3_code 26 (.iload 4) 2 28 := ⟨by decide +kernel, rfl⟩
theorem d_method_3_28 : Dec method_3_code 28 (.iconst 1) 1 29 := ⟨by decide +kernel, rfl⟩
theorem d_method_3_29 : Dec method_3_code 29 (.if_icmp .ne 6) 3 32 := ⟨by decide +kernel, rfl⟩
theorem d_method_3_35 : Dec method_3_code 35 (.iload_n 3) 1 36 := ⟨by decide +kernel, rfl⟩
theorem d_method_3_36 : Dec method_3_code 36 (.sipush 255) 3 39 := ⟨by decide +kernel, rfl⟩
theorem d_method_3_39 : Dec method_3_code 39 (.iand) 1 40 := ⟨by decide +kernel, rfl⟩
theorem d_method_3_40 : Dec method_3_code 40 (.i2c) 1 41 := ⟨by decide +kernel, rfl⟩
theorem d_method_3_41 : Dec method_3_code 41 (.ireturn) 1 42 := ⟨by decide +kernel, rfl⟩
theorem d_method_3_32 : Dec method_3_code 32 (.bipush 97) 2 34 := ⟨by decide +kernel, rfl⟩
theorem d_method_3_34 : Dec method_3_code 34 (.ireturn) 1 35 := ⟨by decide +kernel, rfl⟩
theorem d_method_3_23 : Dec method_3_code 23 (.bipush 47) 2 25 := ⟨by decide +kernel, rfl⟩
theorem d_method_3_25 : Dec method_3_code 25 (.ireturn) 1 26 := ⟨by decide +kernel, rfl⟩
set_option maxRecDepth 65536 in
set_option maxHeartbeats 40000000 in
theorem c_pick (l : Launch) (Z : State) (a0 : Array Value) (hw : ∀ d ∈ tables_1, d.before a0 Z = true) (hE : EW Z a0 EL0) {n0 : Nat} {h0 : Heap} (hO : Old Z n0 h0) (x : Int64) (i : Int32) :
    Ctr NW EL0 n0 Z [] l (⟨"com/example/actions_to_pages/actionstopages/RequestPathsIsUnderPinLaw", "pick", "(JI)C"⟩ : MethodName) method_3_code 5 (some .char) ({ frames := 0, cells := 0, slots := 0, locals := 0 } : Room) #[.long x, .int i] h0 (RV fun w h => ∃ v : Int32, w = .int v ∧ (¬ v < 0 ∧ ¬ (255 : Int32) < v) ∧ h0 = h) := by
  refine Ctr.body (plainFor_of_name pn_2) hE hO (fun x q => nomatch q) (L0 := #[.val (.long x), .second, .val (.int i), .unset, .unset]) (fun m => by first | (simp [entryFrame, mkF, argsToLocals, Value.category, maxLocals]; done) | rfl) ?_
  intro p e s m below meth c T0 W0
  refine Go.lload_n W0.cx d_method_3_0 (v := x) rfl ?_
  refine Go.bipush W0.cx d_method_3_1 (z := (10 : Int32)) rfl ?_
  refine Go.iload_n W0.cx d_method_3_3 (v := i) rfl ?_
  refine Go.imul W0.cx d_method_3_4 ?_
  refine Go.lushr W0.cx d_method_3_5 ?_
  refine Go.ldc2J W0 d_method_3_6 (wd hw 5 rfl) ?_
  refine Go.land W0.cx d_method_3_9 ?_
  refine Go.l2i W0.cx d_method_3_10 ?_
  refine Go.istore_n W0.cx d_method_3_11 (L' := #[.val (.long x), .second, .val (.int i), .val (.int (((ushL x ((10 : Int32) * i)) &&& (1023 : Int64))).toInt32), .unset]) rfl ?_
  refine Go.iload_n W0.cx d_method_3_12 (v := (((ushL x ((10 : Int32) * i)) &&& (1023 : Int64))).toInt32) rfl ?_
  refine Go.bipush W0.cx d_method_3_13 (z := (8 : Int32)) rfl ?_
  refine Go.iushr W0.cx d_method_3_15 ?_
  refine Go.istore W0.cx d_method_3_16 (L' := #[.val (.long x), .second, .val (.int i), .val (.int (((ushL x ((10 : Int32) * i)) &&& (1023 : Int64))).toInt32), .val (.int (ush (((ushL x ((10 : Int32) * i)) &&& (1023 : Int64))).toInt32 (8 : Int32)))]) rfl ?_
  refine Go.iload W0.cx d_method_3_18 (v := (ush (((ushL x ((10 : Int32) * i)) &&& (1023 : Int64))).toInt32 (8 : Int32))) rfl ?_
  refine Go.ifne W0.cx d_method_3_20 (by decide) (q := 26) rfl (fun c1 => ?_) (fun c1 => ?_)
  · refine Go.iload W0.cx d_method_3_26 (v := (ush (((ushL x ((10 : Int32) * i)) &&& (1023 : Int64))).toInt32 (8 : Int32))) rfl ?_
    refine Go.iconst W0.cx d_method_3_28 (z := (1 : Int32)) rfl ?_
    refine Go.icne W0.cx d_method_3_29 (by decide) (q := 35) rfl (fun c2 => ?_) (fun c2 => ?_)
    · refine Go.iload_n W0.cx d_method_3_35 (v := (((ushL x ((10 : Int32) * i)) &&& (1023 : Int64))).toInt32) rfl ?_
      refine Go.sipush W0.cx d_method_3_36 (z := (255 : Int32)) rfl ?_
      refine Go.iand W0.cx d_method_3_39 ?_
      refine Go.i2c W0.cx d_method_3_40 ?_
      refine Go.top (show _ = ((((ushL x ((10 : Int32) * i)) &&& (1023 : Int64))).toInt32 &&& (255 : Int32)) from i2c_mask _) ?_
      exact Go.iret W0 d_method_3_41 (by simp) (narrow_ch (b255 _)) (by decide) (by decide) ⟨_, rfl, _, rfl, b255 _, rfl⟩
    · refine Go.bipush W0.cx d_method_3_32 (z := (97 : Int32)) rfl ?_
      exact Go.iret W0 d_method_3_34 (by simp) rfl (by decide) (by decide) ⟨_, rfl, _, rfl, by decide, rfl⟩
  · refine Go.bipush W0.cx d_method_3_23 (z := (47 : Int32)) rfl ?_
    exact Go.iret W0 d_method_3_25 (by simp) rfl (by decide) (by decide) ⟨_, rfl, _, rfl, by decide, rfl⟩
theorem pn_3 : plainName "java/lang/StringLatin1" = true := by first | (simp [plainName, overriddenIn]; done) | decide +kernel
theorem d_jdk_43_method_3_0 : Dec jdk_43_method_3_code 0 (.iload_n 0) 1 1 := ⟨by decide +kernel, rfl⟩
theorem d_jdk_43_method_3_1 : Dec jdk_43_method_3_code 1 (.sipush 255) 3 4 := ⟨by decide +kernel, rfl⟩
theorem d_jdk_43_method_3_4 : Dec jdk_43_method_3_code 4 (.if_icmp .gt 7) 3 7 := ⟨by decide +kernel, rfl⟩
theorem d_jdk_43_method_3_7 : Dec jdk_43_method_3_code 7 (.iconst 1) 1 8 := ⟨by decide +kernel, rfl⟩
theorem d_jdk_43_method_3_8 : Dec jdk_43_method_3_code 8 (.goto 4) 3 11 := ⟨by decide +kernel, rfl⟩
theorem d_jdk_43_method_3_12 : Dec jdk_43_method_3_code 12 (.ireturn) 1 13 := ⟨by decide +kernel, rfl⟩
set_option maxRecDepth 65536 in
set_option maxHeartbeats 40000000 in
theorem c_canC (l : Launch) (Z : State) (a0 : Array Value) (hw : ∀ d ∈ tables_1, d.before a0 Z = true) (hE : EW Z a0 EL0) {n0 : Nat} {h0 : Heap} (hO : Old Z n0 h0) {x : Int32} (hx : ¬ x < 0 ∧ ¬ (255 : Int32) < x) :
    Ctr NW EL0 n0 Z [] l (⟨"java/lang/StringLatin1", "canEncode", "(C)Z"⟩ : MethodName) jdk_43_method_3_code 1 (some .boolean) ({ frames := 0, cells := 0, slots := 0, locals := 0 } : Room) #[.int x] h0 (RV fun w h => w = .int 1 ∧ h0 = h) := by
  refine Ctr.body (plainFor_of_name pn_3) hE hO (fun x q => nomatch q) (L0 := #[.val (.int x)]) (fun m => by first | (simp [entryFrame, mkF, argsToLocals, Value.category, maxLocals]; done) | rfl) ?_
  intro p e s m below meth c T0 W0
  refine Go.iload_n W0.cx d_jdk_43_method_3_0 (v := x) rfl ?_
  refine Go.sipush W0.cx d_jdk_43_method_3_1 (z := (255 : Int32)) rfl ?_
  refine Go.icgt W0.cx d_jdk_43_method_3_4 (by decide) (q := 11) rfl (fun hh => (by first | exact absurd hx.2 hh | exact absurd hh hx.2)) (fun _ => ?_)
  refine Go.iconst W0.cx d_jdk_43_method_3_7 (z := (1 : Int32)) rfl ?_
  refine Go.goto W0.cx d_jdk_43_method_3_8 (by decide) (q := 12) rfl ?_
  exact Go.iret W0 d_jdk_43_method_3_12 (by simp) rfl (by decide) (by decide) ⟨_, rfl, rfl, rfl⟩
theorem d_jdk_43_method_46_0 : Dec jdk_43_method_46_code 0 (.iconst 1) 1 1 := ⟨by decide +kernel, rfl⟩
theorem d_jdk_43_method_46_1 : Dec jdk_43_method_46_code 1 (.newarray .byte) 2 3 := ⟨by decide +kernel, rfl⟩
theorem d_jdk_43_method_46_3 : Dec jdk_43_method_46_code 3 (.dup) 1 4 := ⟨by decide +kernel, rfl⟩
theorem d_jdk_43_method_46_4 : Dec jdk_43_method_46_code 4 (.iconst 0) 1 5 := ⟨by decide +kernel, rfl⟩
theorem d_jdk_43_method_46_5 : Dec jdk_43_method_46_code 5 (.iload_n 0) 1 6 := ⟨by decide +kernel, rfl⟩
theorem d_jdk_43_method_46_6 : Dec jdk_43_method_46_code 6 (.i2b) 1 7 := ⟨by decide +kernel, rfl⟩
theorem d_jdk_43_method_46_7 : Dec jdk_43_method_46_code 7 (.bastore) 1 8 := ⟨by decide +kernel, rfl⟩
theorem d_jdk_43_method_46_8 : Dec jdk_43_method_46_code 8 (.areturn) 1 9 := ⟨by decide +kernel, rfl⟩
set_option maxRecDepth 65536 in
set_option maxHeartbeats 40000000 in
theorem c_toB (l : Launch) (Z : State) (a0 : Array Value) (hw : ∀ d ∈ tables_1, d.before a0 Z = true) (hE : EW Z a0 EL0) {n0 : Nat} {h0 : Heap} (hO : Old Z n0 h0) (x : Int32) :
    Ctr NW EL0 n0 Z [] l (⟨"java/lang/StringLatin1", "toBytes", "(C)[B"⟩ : MethodName) jdk_43_method_46_code 1 (some (.array .byte)) ({ frames := 0, cells := 1, slots := 1, locals := 0 } : Room) #[.int x] h0 (RV fun w h => ∃ b kb, w = .ref b ∧ Ext h0 h ∧ h0.size ≤ b ∧ BArr Z h b kb [x]) := by
  refine Ctr.body (plainFor_of_name pn_3) hE hO (fun x q => nomatch q) (L0 := #[.val (.int x)]) (fun m => by first | (simp [entryFrame, mkF, argsToLocals, Value.category, maxLocals]; done) | rfl) ?_
  intro p e s m below meth c T0 W0
  refine Go.iconst W0.cx d_jdk_43_method_46_0 (z := (1 : Int32)) rfl ?_
  refine Go.newarr W0 d_jdk_43_method_46_1 (wd hw 23 rfl) (z := (1 : Int32)) (cap := 1) (by decide) (by decide) (by decide) (cells' := 1) (slots' := 1) rfl rfl (by decide) (by decide) ?_
  intro T1 h1 a1 ka1 g1 W1 E1 A1
  have V1 : BArr Z h1 a1 ka1 [0] := BArr.of_new A1 (k := 1) rfl rfl
  refine Go.dup W1.cx d_jdk_43_method_46_3 rfl ?_
  refine Go.iconst W1.cx d_jdk_43_method_46_4 (z := (0 : Int32)) rfl ?_
  refine Go.iload_n W1.cx d_jdk_43_method_46_5 (v := x) rfl ?_
  refine Go.i2b W1.cx d_jdk_43_method_46_6 ?_
  refine Go.bastore W1 0 d_jdk_43_method_46_7 V1 (by simp) rfl (Nat.le_of_ble_eq_true rfl) (Nat.le_of_ble_eq_true rfl) (x' := x) (by8_nar _) ?_
  intro T2 h2 W2 K2 V2
  have V2 : BArr Z h2 a1 ka1 [x] := V2
  exact Go.aret W2 d_jdk_43_method_46_8 rfl rfl rfl (by decide) (by decide) ⟨_, rfl, _, _, rfl, ext_keep E1 K2 (all1 (Nat.le_of_eq g1.symm)), Nat.le_of_eq g1.symm, V2⟩
theorem d_jdk_42_method_151_0 : Dec jdk_42_method_151_code 0 (.aload_n 0) 1 1 := ⟨by decide +kernel, rfl⟩
theorem d_jdk_42_method_151_1 : Dec jdk_42_method_151_code 1 (.invokespecial 1) 3 4 := ⟨by decide +kernel, rfl⟩
theorem d_jdk_42_method_151_4 : Dec jdk_42_method_151_code 4 (.aload_n 0) 1 5 := ⟨by decide +kernel, rfl⟩
theorem d_jdk_42_method_151_5 : Dec jdk_42_method_151_code 5 (.aload_n 1) 1 6 := ⟨by decide +kernel, rfl⟩
theorem d_jdk_42_method_151_6 : Dec jdk_42_method_151_code 6 (.putfield 9) 3 9 := ⟨by decide +kernel, rfl⟩
theorem d_jdk_42_method_151_9 : Dec jdk_42_method_151_code 9 (.aload_n 0) 1 10 := ⟨by decide +kernel, rfl⟩
theorem d_jdk_42_method_151_10 : Dec jdk_42_method_151_code 10 (.iload_n 2) 1 11 := ⟨by decide +kernel, rfl⟩
theorem d_jdk_42_method_151_11 : Dec jdk_42_method_151_code 11 (.putfield 15) 3 14 := ⟨by decide +kernel, rfl⟩
theorem d_jdk_42_method_151_14 : Dec jdk_42_method_151_code 14 (.return_) 1 15 := ⟨by decide +kernel, rfl⟩
set_option maxRecDepth 65536 in
set_option maxHeartbeats 40000000 in
theorem c_s151 (l : Launch) (Z : State) (a0 : Array Value) (hw : ∀ d ∈ tables_1, d.before a0 Z = true) (hE : EW Z a0 EL0) {n0 : Nat} {h0 : Heap} (hO : Old Z n0 h0) {y b : Addr} {kb : ClassId} {x : Int32} (hy : n0 ≤ y) (N_x : NewS Z h0 y) (A : BArr Z h0 b kb [x]) (hb : b ≠ y) (hx : ¬ x < 0 ∧ ¬ (255 : Int32) < x) :
    Ctr NW EL0 n0 Z [y] l (⟨"java/lang/String", "<init>", "([BB)V"⟩ : MethodName) jdk_42_method_151_code 3 none ({ frames := 1, cells := 0, slots := 0, locals := 12 } : Room) #[.ref y, .ref b, .int 0] h0 (RN fun h => Keep h0 h [y] ∧ Str Z h y [x]) := by
  refine Ctr.body (plainFor_of_name pn_0) hE hO (fun z q => by cases List.mem_singleton.mp q; exact ⟨hy, N_x.1.lt⟩) (L0 := #[.val (.ref y), .val (.ref b), .val (.int (0 : Int32))]) (fun m => by first | (simp [entryFrame, mkF, argsToLocals, Value.category, maxLocals]; done) | rfl) ?_
  intro p e s m below meth c T0 W0
  refine Go.aload_n W0.cx d_jdk_42_method_151_0 (v := (.ref y)) rfl rfl ?_
  refine Go.initObj W0 d_jdk_42_method_151_1 (wd hw 19 rfl) (wd hw 20 rfl) (wd hw 21 rfl) rfl (by decide) (wt := 0) rfl (by decide) ?_
  intro T1 W1
  refine Go.aload_n W1.cx d_jdk_42_method_151_4 (v := (.ref y)) rfl rfl ?_
  refine Go.aload_n W1.cx d_jdk_42_method_151_5 (v := (.ref b)) rfl rfl ?_
  refine Go.putf W1 d_jdk_42_method_151_6 (wd hw 28 rfl) Via.refl N_x.2.1 N_x.1 (Or.inr ⟨(wd hw 24 rfl), rfl, rfl⟩) (wd hw 10 rfl) (t := (.array .byte)) (by decide) (v' := (.ref b)) rfl rfl (by simp) ?_
  intro T2 h2 W2 R2
  have B2 := Arv.other A R2 hb
  have F2 := N_x.2.1.same R2
  have M2 := N_x.1.wr R2
  have C2 := N_x.2.2.other R2 (Or.inr (slot_ne (Or.inr (wd hw 25 rfl)) (Or.inr (wd hw 24 rfl)) (by decide) (t := .byte) (t' := .array .byte) (by decide) (by decide)))
  have Q2 : Keep h0 h2 [y] := (Keep.refl h0 [y]).wr R2 (Or.inl (by simp))
  refine Go.aload_n W2.cx d_jdk_42_method_151_9 (v := (.ref y)) rfl rfl ?_
  refine Go.iload_n W2.cx d_jdk_42_method_151_10 (v := (0 : Int32)) rfl ?_
  refine Go.putf W2 d_jdk_42_method_151_11 (wd hw 29 rfl) Via.refl C2 M2 (Or.inr ⟨(wd hw 25 rfl), rfl, rfl⟩) (wd hw 10 rfl) (t := .byte) (by decide) (v' := (.int 0)) rfl rfl (by simp) ?_
  intro T3 h3 W3 R3
  have F3 := F2.other R3 (Or.inr (slot_ne (Or.inr (wd hw 24 rfl)) (Or.inr (wd hw 25 rfl)) (by decide) (t := .array .byte) (t' := .byte) (by decide) (by decide)))
  have B3 := Arv.other B2 R3 hb
  exact Go.vret W3 d_jdk_42_method_151_14 (by decide) (by decide) ⟨rfl, Q2.wr R3 (Or.inl (by simp)), M2.wr R3, C2.same R3, ⟨b, kb, F3, B3⟩, all_cons hx all_nil, Nat.le_of_ble_eq_true rfl⟩
theorem d_jdk_42_method_139_0 : Dec jdk_42_method_139_code 0 (.getstatic 38) 3 3 := ⟨by decide +kernel, rfl⟩
theorem d_jdk_42_method_139_3 : Dec jdk_42_method_139_code 3 (.ifCond .eq 23) 3 6 := ⟨by decide +kernel, rfl⟩
theorem d_jdk_42_method_139_6 : Dec jdk_42_method_139_code 6 (.iload_n 0) 1 7 := ⟨by decide +kernel, rfl⟩
theorem d_jdk_42_method_139_7 : Dec jdk_42_method_139_code 7 (.invokestatic 1015) 3 10 := ⟨by decide +kernel, rfl⟩
theorem pd_5 : parseMethodDescriptor "(C)Z" = some ⟨[.char], some .boolean⟩ := by decide +kernel
theorem d_jdk_42_method_139_10 : Dec jdk_42_method_139_code 10 (.ifCond .eq 16) 3 13 := ⟨by decide +kernel, rfl⟩
theorem d_jdk_42_method_139_13 : Dec jdk_42_method_139_code 13 (.new 10) 3 16 := ⟨by decide +kernel, rfl⟩
theorem d_jdk_42_method_139_16 : Dec jdk_42_method_139_code 16 (.dup) 1 17 := ⟨by decide +kernel, rfl⟩
theorem d_jdk_42_method_139_17 : Dec jdk_42_method_139_code 17 (.iload_n 0) 1 18 := ⟨by decide +kernel, rfl⟩
theorem d_jdk_42_method_139_18 : Dec jdk_42_method_139_code 18 (.invokestatic 1018) 3 21 := ⟨by decide +kernel, rfl⟩
theorem pd_6 : parseMethodDescriptor "(C)[B" = some ⟨[.char], some (.array .byte)⟩ := by decide +kernel
theorem d_jdk_42_method_139_21 : Dec jdk_42_method_139_code 21 (.iconst 0) 1 22 := ⟨by decide +kernel, rfl⟩
theorem d_jdk_42_method_139_22 : Dec jdk_42_method_139_code 22 (.invokespecial 209) 3 25 := ⟨by decide +kernel, rfl⟩
theorem pd_7 : parseMethodDescriptor "([BB)V" = some ⟨[(.array .byte), .byte], none⟩ := by decide +kernel
theorem d_jdk_42_method_139_25 : Dec jdk_42_method_139_code 25 (.areturn) 1 26 := ⟨by decide +kernel, rfl⟩
set_option maxRecDepth 65536 in
set_option maxHeartbeats 40000000 in
theorem c_vo (l : Launch) (Z : State) (a0 : Array Value) (hw : ∀ d ∈ tables_1, d.before a0 Z = true) (hE : EW Z a0 EL0) {n0 : Nat} {h0 : Heap} (hO : Old Z n0 h0) (hG : Gl Z) {x : Int32} (hx : ¬ x < 0 ∧ ¬ (255 : Int32) < x) :
    Ctr NW EL0 n0 Z [] l (⟨"java/lang/String", "valueOf", "(C)Ljava/lang/String;"⟩ : MethodName) jdk_42_method_139_code 1 (some (.object "java/lang/String")) ({ frames := 2, cells := 2, slots := 5, locals := 27 } : Room) #[.int x] h0 (RV fun w h => ∃ r, w = .ref r ∧ Ext h0 h ∧ Str Z h r [x]) := by
  refine Ctr.body (plainFor_of_name pn_0) hE hO (fun x q => nomatch q) (L0 := #[.val (.int x)]) (fun m => by first | (simp [entryFrame, mkF, argsToLocals, Value.category, maxLocals]; done) | rfl) ?_
  intro p e s m below meth c T0 W0
  obtain ⟨⟨zc, O2, P5⟩, -⟩ := id hG
  refine Go.gets W0 d_jdk_42_method_139_0 (wd hw 54 rfl) Via.refl O2 ?_
  intro T1 W1
  refine Go.ifeq W1.cx d_jdk_42_method_139_3 (by decide) (q := 26) rfl (fun hh => (by first | exact absurd P5 hh | exact absurd hh P5)) (fun _ => ?_)
  refine Go.iload_n W1.cx d_jdk_42_method_139_6 (v := x) rfl ?_
  refine Go.invs1 W1 (Ctr.call (wt := 0) (c_canC l Z a0 hw hE W1.old hx) W1.ew (wd hw 66 rfl) (wd hw 65 rfl) (by simp) (by decide) (by decide)) d_jdk_42_method_139_7 (wd hw 63 rfl) (wd hw 64 rfl) (wd hw 65 rfl) (wd hw 66 rfl) (by decide) pd_5 rfl rfl (rest := []) rfl (Nat.le_of_eq rfl) (cells' := 0) (slots' := 0) rfl rfl (by decide) (by decide) ?_
  rintro T2 h2 _ W2 z2 ⟨rfl, e2⟩
  subst e2
  refine Go.ifeq W2.cx d_jdk_42_method_139_10 (by decide) (q := 26) rfl (fun hh => (by first | exact absurd (by decide : ¬ (1 : Int32) = 0) hh | exact absurd hh (by decide : ¬ (1 : Int32) = 0))) (fun _ => ?_)
  refine Go.new W2 d_jdk_42_method_139_13 (wd hw 67 rfl) (wd hw 10 rfl) (wd hw 11 rfl) (cells' := 1) (slots' := 4) rfl rfl (by decide) (by decide) ?_
  intro T3 h3 a3 g3 W3 E3 A3 D3
  have N3 : NewS Z h3 a3 := ⟨A3, D3 (Or.inr (wd hw 24 rfl)) (t := .array .byte) (by decide), D3 (Or.inr (wd hw 25 rfl)) (t := .byte) (by decide)⟩
  refine Go.dup W3.cx d_jdk_42_method_139_16 rfl ?_
  refine Go.iload_n W3.cx d_jdk_42_method_139_17 (v := x) rfl ?_
  refine Go.invs1 W3 (Ctr.call (wt := 2) (c_toB l Z a0 hw hE W3.old x) W3.ew (wd hw 70 rfl) (wd hw 65 rfl) (by simp) (by decide) (by decide)) d_jdk_42_method_139_18 (wd hw 68 rfl) (wd hw 69 rfl) (wd hw 65 rfl) (wd hw 70 rfl) (by decide) pd_6 rfl rfl (rest := [(.ref a3), (.ref a3)]) rfl (Nat.le_of_eq rfl) (cells' := 2) (slots' := 5) rfl rfl (by decide) (by decide) ?_
  rintro T4 h4 _ W4 z4 ⟨b4, kb4, rfl, E4, lb4, V4⟩
  refine Go.iconst W4.cx d_jdk_42_method_139_21 (z := (0 : Int32)) rfl ?_
  refine Go.invi W4 (Ctr.call (wt := 1) (c_s151 l Z a0 hw hE W4.old (W4.mine (by simp)).1 (N3.ext E4) V4 (ne_ge N3.1.lt lb4) hx) W4.ew (wd hw 73 rfl) (wd hw 11 rfl) (by simp) (by decide) (by decide)) d_jdk_42_method_139_22 rfl (wd hw 71 rfl) (wd hw 72 rfl) (wd hw 73 rfl) (by decide) pd_7 rfl rfl (rest := [(.ref a3)]) rfl (Nat.le_of_eq rfl) (cells' := 2) (slots' := 5) rfl rfl (by decide) (by decide) ?_
  rintro T5 h5 W5 z5 ⟨K5, S5⟩
  exact Go.aret W5 d_jdk_42_method_139_25 rfl rfl rfl (by decide) (by decide) ⟨_, rfl, _, rfl, ext_keep (ext_trans E3 E4) K5 (all1 (Nat.le_of_eq g3.symm)), S5⟩
theorem d_method_4_0 : Dec method_4_code 0 (.iload_n 1) 1 1 := ⟨by decide +kernel, rfl⟩
theorem d_method_4_1 : Dec method_4_code 1 (.ifCond .gt 14) 3 4 := ⟨by decide +kernel, rfl⟩
theorem d_method_4_4 : Dec method_4_code 4 (.new 25) 3 7 := ⟨by decide +kernel, rfl⟩
theorem d_method_4_7 : Dec method_4_code 7 (.dup) 1 8 := ⟨by decide +kernel, rfl⟩
theorem d_method_4_8 : Dec method_4_code 8 (.iconst 0) 1 9 := ⟨by decide +kernel, rfl⟩
theorem d_method_4_9 : Dec method_4_code 9 (.newarray .char) 2 11 := ⟨by decide +kernel, rfl⟩
theorem d_method_4_11 : Dec method_4_code 11 (.invokespecial 27) 3 14 := ⟨by decide +kernel, rfl⟩
theorem pd_8 : parseMethodDescriptor "([C)V" = some ⟨[(.array .char)], none⟩ := by decide +kernel
theorem d_method_4_14 : Dec method_4_code 14 (.areturn) 1 15 := ⟨by decide +kernel, rfl⟩
theorem d_method_4_15 : Dec method_4_code 15 (.iload_n 1) 1 16 := ⟨by decide +kernel, rfl⟩
theorem d_method_4_16 : Dec method_4_code 16 (.iconst 1) 1 17 := ⟨by decide +kernel, rfl⟩
theorem d_method_4_17 : Dec method_4_code 17 (.if_icmp .ne 10) 3 20 := ⟨by decide +kernel, rfl⟩
theorem d_method_4_20 : Dec method_4_code 20 (.aload_n 0) 1 21 := ⟨by decide +kernel, rfl⟩
theorem d_method_4_21 : Dec method_4_code 21 (.iconst 0) 1 22 := ⟨by decide +kernel, rfl⟩
theorem d_method_4_22 : Dec method_4_code 22 (.caload) 1 23 := ⟨by decide +kernel, rfl⟩
theorem d_method_4_23 : Dec method_4_code 23 (.invokestatic 30) 3 26 := ⟨by decide +kernel, rfl⟩
theorem pd_9 : parseMethodDescriptor "(C)Ljava/lang/String;" = some ⟨[.char], some (.object "java/lang/String")⟩ := by decide +kernel
theorem d_method_4_26 : Dec method_4_code 26 (.areturn) 1 27 := ⟨by decide +kernel, rfl⟩
theorem d_method_4_27 : Dec method_4_code 27 (.iload_n 1) 1 28 := ⟨by decide +kernel, rfl⟩
theorem d_method_4_28 : Dec method_4_code 28 (.iconst 2) 1 29 := ⟨by decide +kernel, rfl⟩
theorem d_method_4_29 : Dec method_4_code 29 (.if_icmp .ne 26) 3 32 := ⟨by decide +kernel, rfl⟩
theorem d_method_4_32 : Dec method_4_code 32 (.new 25) 3 35 := ⟨by decide +kernel, rfl⟩
theorem d_method_4_35 : Dec method_4_code 35 (.dup) 1 36 := ⟨by decide +kernel, rfl⟩
theorem d_method_4_36 : Dec method_4_code 36 (.iconst 2) 1 37 := ⟨by decide +kernel, rfl⟩
theorem d_method_4_37 : Dec method_4_code 37 (.newarray .char) 2 39 := ⟨by decide +kernel, rfl⟩
theorem d_method_4_39 : Dec method_4_code 39 (.dup) 1 40 := ⟨by decide +kernel, rfl⟩
theorem d_method_4_40 : Dec method_4_code 40 (.iconst 0) 1 41 := ⟨by decide +kernel, rfl⟩
theorem d_method_4_41 : Dec method_4_code 41 (.aload_n 0) 1 42 := ⟨by decide +kernel, rfl⟩
theorem d_method_4_42 : Dec method_4_code 42 (.iconst 0) 1 43 := ⟨by decide +kernel, rfl⟩
theorem d_method_4_43 : Dec method_4_code 43 (.caload) 1 44 := ⟨by decide +kernel, rfl⟩
theorem d_method_4_44 : Dec method_4_code 44 (.castore) 1 45 := ⟨by decide +kernel, rfl⟩
theorem d_method_4_45 : Dec method_4_code 45 (.dup) 1 46 := ⟨by decide +kernel, rfl⟩
theorem d_method_4_46 : Dec method_4_code 46 (.iconst 1) 1 47 := ⟨by decide +kernel, rfl⟩
theorem d_method_4_47 : Dec method_4_code 47 (.aload_n 0) 1 48 := ⟨by decide +kernel, rfl⟩
theorem d_method_4_48 : Dec method_4_code 48 (.iconst 1) 1 49 := ⟨by decide +kernel, rfl⟩
theorem d_method_4_49 : Dec method_4_code 49 (.caload) 1 50 := ⟨by decide +kernel, rfl⟩
theorem d_method_4_50 : Dec method_4_code 50 (.castore) 1 51 := ⟨by decide +kernel, rfl⟩
theorem d_method_4_51 : Dec method_4_code 51 (.invokespecial 27) 3 54 := ⟨by decide +kernel, rfl⟩
theorem d_method_4_54 : Dec method_4_code 54 (.areturn) 1 55 := ⟨by decide +kernel, rfl⟩
theorem d_method_4_55 : Dec method_4_code 55 (.iload_n 1) 1 56 := ⟨by decide +kernel, rfl⟩
theorem d_method_4_56 : Dec method_4_code 56 (.iconst 3) 1 57 := ⟨by decide +kernel, rfl⟩
theorem d_method_4_57 : Dec method_4_code 57 (.if_icmp .ne 32) 3 60 := ⟨by decide +kernel, rfl⟩
theorem d_method_4_60 : Dec method_4_code 60 (.new 25) 3 63 := ⟨by decide +kernel, rfl⟩
theorem d_method_4_63 : Dec method_4_code 63 (.dup) 1 64 := ⟨by decide +kernel, rfl⟩
theorem d_method_4_64 : Dec method_4_code 64 (.iconst 3) 1 65 := ⟨by decide +kernel, rfl⟩
theorem d_method_4_65 : Dec method_4_code 65 (.newarray .char) 2 67 := ⟨by decide +kernel, rfl⟩
theorem d_method_4_67 : Dec method_4_code 67 (.dup) 1 68 := ⟨by decide +kernel, rfl⟩
theorem d_method_4_68 : Dec method_4_code 68 (.iconst 0) 1 69 := ⟨by decide +kernel, rfl⟩
theorem d_method_4_69 : Dec method_4_code 69 (.aload_n 0) 1 70 := ⟨by decide +kernel, rfl⟩
theorem d_method_4_70 : Dec method_4_code 70 (.iconst 0) 1 71 := ⟨by decide +kernel, rfl⟩
theorem d_method_4_71 : Dec method_4_code 71 (.caload) 1 72 := ⟨by decide +kernel, rfl⟩
theorem d_method_4_72 : Dec method_4_code 72 (.castore) 1 73 := ⟨by decide +kernel, rfl⟩
theorem d_method_4_73 : Dec method_4_code 73 (.dup) 1 74 := ⟨by decide +kernel, rfl⟩
theorem d_method_4_74 : Dec method_4_code 74 (.iconst 1) 1 75 := ⟨by decide +kernel, rfl⟩
theorem d_method_4_75 : Dec method_4_code 75 (.aload_n 0) 1 76 := ⟨by decide +kernel, rfl⟩
theorem d_method_4_76 : Dec method_4_code 76 (.iconst 1) 1 77 := ⟨by decide +kernel, rfl⟩
theorem d_method_4_77 : Dec method_4_code 77 (.caload) 1 78 := ⟨by decide +kernel, rfl⟩
theorem d_method_4_78 : Dec method_4_code 78 (.castore) 1 79 := ⟨by decide +kernel, rfl⟩
theorem d_method_4_79 : Dec method_4_code 79 (.dup) 1 80 := ⟨by decide +kernel, rfl⟩
theorem d_method_4_80 : Dec method_4_code 80 (.iconst 2) 1 81 := ⟨by decide +kernel, rfl⟩
theorem d_method_4_81 : Dec method_4_code 81 (.aload_n 0) 1 82 := ⟨by decide +kernel, rfl⟩
theorem d_method_4_82 : Dec method_4_code 82 (.iconst 2) 1 83 := ⟨by decide +kernel, rfl⟩
theorem d_method_4_83 : Dec method_4_code 83 (.caload) 1 84 := ⟨by decide +kernel, rfl⟩
theorem d_method_4_84 : Dec method_4_code 84 (.castore) 1 85 := ⟨by decide +kernel, rfl⟩
theorem d_method_4_85 : Dec method_4_code 85 (.invokespecial 27) 3 88 := ⟨by decide +kernel, rfl⟩
theorem d_method_4_88 : Dec method_4_code 88 (.areturn) 1 89 := ⟨by decide +kernel, rfl⟩
theorem d_method_4_89 : Dec method_4_code 89 (.new 25) 3 92 := ⟨by decide +kernel, rfl⟩
theorem d_method_4_92 : Dec method_4_code 92 (.dup) 1 93 := ⟨by decide +kernel, rfl⟩
theorem d_method_4_93 : Dec method_4_code 93 (.iconst 4) 1 94 := ⟨by decide +kernel, rfl⟩
theorem d_method_4_94 : Dec method_4_code 94 (.newarray .char) 2 96 := ⟨by decide +kernel, rfl⟩
theorem d_method_4_96 : Dec method_4_code 96 (.dup) 1 97 := ⟨by decide +kernel, rfl⟩
theorem d_method_4_97 : Dec method_4_code 97 (.iconst 0) 1 98 := ⟨by decide +kernel, rfl⟩
theorem d_method_4_98 : Dec method_4_code 98 (.aload_n 0) 1 99 := ⟨by decide +kernel, rfl⟩
theorem d_method_4_99 : Dec method_4_code 99 (.iconst 0) 1 100 := ⟨by decide +kernel, rfl⟩
theorem d_method_4_100 : Dec method_4_code 100 (.caload) 1 101 := ⟨by decide +kernel, rfl⟩
theorem d_method_4_101 : Dec method_4_code 101 (.castore) 1 102 := ⟨by decide +kernel, rfl⟩
theorem d_method_4_102 : Dec method_4_code 102 (.dup) 1 103 := ⟨by decide +kernel, rfl⟩
theorem d_method_4_103 : Dec method_4_code 103 (.iconst 1) 1 104 := ⟨by decide +kernel, rfl⟩
theorem d_method_4_104 : Dec method_4_code 104 (.aload_n 0) 1 105 := ⟨by decide +kernel, rfl⟩
theorem d_method_4_105 : Dec method_4_code 105 (.iconst 1) 1 106 := ⟨by decide +kernel, rfl⟩
theorem d_method_4_106 : Dec method_4_code 106 (.caload) 1 107 := ⟨by decide +kernel, rfl⟩
theorem d_method_4_107 : Dec method_4_code 107 (.castore) 1 108 := ⟨by decide +kernel, rfl⟩
theorem d_method_4_108 : Dec method_4_code 108 (.dup) 1 109 := ⟨by decide +kernel, rfl⟩
theorem d_method_4_109 : Dec method_4_code 109 (.iconst 2) 1 110 := ⟨by decide +kernel, rfl⟩
theorem d_method_4_110 : Dec method_4_code 110 (.aload_n 0) 1 111 := ⟨by decide +kernel, rfl⟩
theorem d_method_4_111 : Dec method_4_code 111 (.iconst 2) 1 112 := ⟨by decide +kernel, rfl⟩
theorem d_method_4_112 : Dec method_4_code 112 (.caload) 1 113 := ⟨by decide +kernel, rfl⟩
theorem d_method_4_113 : Dec method_4_code 113 (.castore) 1 114 := ⟨by decide +kernel, rfl⟩
theorem d_method_4_114 : Dec method_4_code 114 (.dup) 1 115 := ⟨by decide +kernel, rfl⟩
theorem d_method_4_115 : Dec method_4_code 115 (.iconst 3) 1 116 := ⟨by decide +kernel, rfl⟩
theorem d_method_4_116 : Dec method_4_code 116 (.aload_n 0) 1 117 := ⟨by decide +kernel, rfl⟩
theorem d_method_4_117 : Dec method_4_code 117 (.iconst 3) 1 118 := ⟨by decide +kernel, rfl⟩
theorem d_method_4_118 : Dec method_4_code 118 (.caload) 1 119 := ⟨by decide +kernel, rfl⟩
theorem d_method_4_119 : Dec method_4_code 119 (.castore) 1 120 := ⟨by decide +kernel, rfl⟩
theorem d_method_4_120 : Dec method_4_code 120 (.invokespecial 27) 3 123 := ⟨by decide +kernel, rfl⟩
theorem d_method_4_123 : Dec method_4_code 123 (.areturn) 1 124 := ⟨by decide +kernel, rfl⟩
set_option maxRecDepth 65536 in
set_option maxHeartbeats 40000000 in
theorem c_str (l : Launch) (Z : State) (a0 : Array Value) (hw : ∀ d ∈ tables_1, d.before a0 Z = true) (hE : EW Z a0 EL0) {n0 : Nat} {h0 : Heap} (hO : Old Z n0 h0) (hG : Gl Z) {a : Addr} {ka : ClassId} {cs : List Int32} (A : CArr Z h0 a ka cs) (hp : ∀ c ∈ cs, ¬ c < 0 ∧ ¬ (255 : Int32) < c) (hcl : cs.length ≤ 4000) {n : Nat} (hn : n ≤ 4) (hn2 : n ≤ cs.length) :
    Ctr NW EL0 n0 Z [] l (⟨"com/example/actions_to_pages/actionstopages/RequestPathsIsUnderPinLaw", "str", "([CI)Ljava/lang/String;"⟩ : MethodName) method_4_code 2 (some (.object "java/lang/String")) ({ frames := 4, cells := 6, slots := 12, locals := 66 } : Room) #[.ref a, .int (Int32.ofNat n)] h0 (RV fun w h => ∃ r, w = .ref r ∧ Ext h0 h ∧ Str Z h r (cs.take n)) := by
  refine Ctr.body (plainFor_of_name pn_2) hE hO (fun x q => nomatch q) (L0 := #[.val (.ref a), .val (.int (Int32.ofNat n))]) (fun m => by first | (simp [entryFrame, mkF, argsToLocals, Value.category, maxLocals]; done) | rfl) ?_
  intro p e s m below meth c T0 W0
  rcases (show n = 0 ∨ n = 1 ∨ n = 2 ∨ n = 3 ∨ n = 4 by omega) with rfl | rfl | rfl | rfl | rfl
  · refine Go.iload_n W0.cx d_method_4_0 (v := (Int32.ofNat 0)) rfl ?_
    refine Go.ifgt W0.cx d_method_4_1 (by decide) (q := 15) rfl (fun hh => (by first | exact absurd (by decide : ¬ (0 : Int32) < Int32.ofNat 0) hh | exact absurd hh (by decide : ¬ (0 : Int32) < Int32.ofNat 0))) (fun _ => ?_)
    refine Go.new W0 d_method_4_4 (wd hw 9 rfl) (wd hw 10 rfl) (wd hw 11 rfl) (cells' := 1) (slots' := 4) rfl rfl (by decide) (by decide) ?_
    intro T1 h1 a1 g1 W1 E1 A1 D1
    have N1 : NewS Z h1 a1 := ⟨A1, D1 (Or.inr (wd hw 24 rfl)) (t := .array .byte) (by decide), D1 (Or.inr (wd hw 25 rfl)) (t := .byte) (by decide)⟩
    refine Go.dup W1.cx d_method_4_7 rfl ?_
    refine Go.iconst W1.cx d_method_4_8 (z := (0 : Int32)) rfl ?_
    refine Go.newarr W1 d_method_4_9 (wd hw 0 rfl) (z := (0 : Int32)) (cap := 0) (by decide) (by decide) (by decide) (cells' := 2) (slots' := 4) rfl rfl (by decide) (by decide) ?_
    intro T2 h2 a2 ka2 g2 W2 E2 A2
    have V2 : CArr Z h2 a2 ka2 [] := CArr.of_new A2 (k := 0) rfl rfl
    have X2 : Ext h0 h2 := ext_trans E1 E2
    have N2 := N1.ext E2
    refine Go.invi W2 (Ctr.call (wt := 1) (c_s3 l Z a0 hw hE W2.old (W2.mine (by simp)).1 N2 V2) W2.ew (wd hw 14 rfl) (wd hw 11 rfl) (by simp) (by decide) (by decide)) d_method_4_11 rfl (wd hw 12 rfl) (wd hw 13 rfl) (wd hw 14 rfl) (by decide) pd_8 rfl rfl (rest := [(.ref a1)]) rfl (Nat.le_of_eq rfl) (cells' := 6) (slots' := 12) rfl rfl (by decide) (by decide) ?_
    rintro T3 h3 W3 z3 ⟨K3, S3⟩
    have X3 : Ext h0 h3 := ext_keep X2 K3 (all1 (Nat.le_of_eq g1.symm))
    exact Go.aret W3 d_method_4_14 rfl rfl rfl (by decide) (by decide) ⟨_, rfl, a1, rfl, X3, S3⟩
  · refine Go.iload_n W0.cx d_method_4_0 (v := (Int32.ofNat 1)) rfl ?_
    refine Go.ifgt W0.cx d_method_4_1 (by decide) (q := 15) rfl (fun _ => ?_) (fun hh => (by first | exact absurd (by decide : (0 : Int32) < Int32.ofNat 1) hh | exact absurd hh (by decide : (0 : Int32) < Int32.ofNat 1)))
    refine Go.iload_n W0.cx d_method_4_15 (v := (Int32.ofNat 1)) rfl ?_
    refine Go.iconst W0.cx d_method_4_16 (z := (1 : Int32)) rfl ?_
    refine Go.icne W0.cx d_method_4_17 (by decide) (q := 27) rfl (fun hh => (by first | exact absurd (by decide : Int32.ofNat 1 = 1) hh | exact absurd hh (by decide : Int32.ofNat 1 = 1))) (fun _ => ?_)
    refine Go.aload_n W0.cx d_method_4_20 (v := (.ref a)) rfl rfl ?_
    refine Go.iconst W0.cx d_method_4_21 (z := (0 : Int32)) rfl ?_
    refine Go.caload W0 0 d_method_4_22 A rfl (by omega) (by omega) (v := (cs.getD 0 0)) rfl ?_
    refine Go.invs1 W0 (Ctr.call (wt := 0) (c_vo l Z a0 hw hE W0.old hG (getD_ch hp (i := 0) (by omega))) W0.ew (wd hw 62 rfl) (wd hw 11 rfl) (by simp) (by decide) (by decide)) d_method_4_23 (wd hw 60 rfl) (wd hw 61 rfl) (wd hw 11 rfl) (wd hw 62 rfl) (by decide) pd_9 rfl rfl (rest := []) rfl (Nat.le_of_eq rfl) (cells' := 2) (slots' := 5) rfl rfl (by decide) (by decide) ?_
    rintro T4 h4 _ W4 z4 ⟨r4, rfl, E4, S4⟩
    exact Go.aret W4 d_method_4_26 rfl rfl rfl (by decide) (by decide) ⟨_, rfl, r4, rfl, E4, by rw [tk1 hn2]; exact S4⟩
  · refine Go.iload_n W0.cx d_method_4_0 (v := (Int32.ofNat 2)) rfl ?_
    refine Go.ifgt W0.cx d_method_4_1 (by decide) (q := 15) rfl (fun _ => ?_) (fun hh => (by first | exact absurd (by decide : (0 : Int32) < Int32.ofNat 2) hh | exact absurd hh (by decide : (0 : Int32) < Int32.ofNat 2)))
    refine Go.iload_n W0.cx d_method_4_15 (v := (Int32.ofNat 2)) rfl ?_
    refine Go.iconst W0.cx d_method_4_16 (z := (1 : Int32)) rfl ?_
    refine Go.icne W0.cx d_method_4_17 (by decide) (q := 27) rfl (fun _ => ?_) (fun hh => (by first | exact absurd (by decide : ¬ Int32.ofNat 2 = 1) hh | exact absurd hh (by decide : ¬ Int32.ofNat 2 = 1)))
    refine Go.iload_n W0.cx d_method_4_27 (v := (Int32.ofNat 2)) rfl ?_
    refine Go.iconst W0.cx d_method_4_28 (z := (2 : Int32)) rfl ?_
    refine Go.icne W0.cx d_method_4_29 (by decide) (q := 55) rfl (fun hh => (by first | exact absurd (by decide : Int32.ofNat 2 = 2) hh | exact absurd hh (by decide : Int32.ofNat 2 = 2))) (fun _ => ?_)
    refine Go.new W0 d_method_4_32 (wd hw 9 rfl) (wd hw 10 rfl) (wd hw 11 rfl) (cells' := 1) (slots' := 4) rfl rfl (by decide) (by decide) ?_
    intro T5 h5 a5 g5 W5 E5 A5 D5
    have N5 : NewS Z h5 a5 := ⟨A5, D5 (Or.inr (wd hw 24 rfl)) (t := .array .byte) (by decide), D5 (Or.inr (wd hw 25 rfl)) (t := .byte) (by decide)⟩
    refine Go.dup W5.cx d_method_4_35 rfl ?_
    refine Go.iconst W5.cx d_method_4_36 (z := (2 : Int32)) rfl ?_
    refine Go.newarr W5 d_method_4_37 (wd hw 0 rfl) (z := (2 : Int32)) (cap := 2) (by decide) (by decide) (by decide) (cells' := 2) (slots' := 6) rfl rfl (by decide) (by decide) ?_
    intro T6 h6 a6 ka6 g6 W6 E6 A6
    have V6 : CArr Z h6 a6 ka6 [0, 0] := CArr.of_new A6 (k := 2) rfl rfl
    have X6 : Ext h0 h6 := ext_trans E5 E6
    have N6 := N5.ext E6
    have Aq5 := A.ext E5
    have Aq6 := Aq5.ext E6
    refine Go.dup W6.cx d_method_4_39 rfl ?_
    refine Go.iconst W6.cx d_method_4_40 (z := (0 : Int32)) rfl ?_
    refine Go.aload_n W6.cx d_method_4_41 (v := (.ref a)) rfl rfl ?_
    refine Go.iconst W6.cx d_method_4_42 (z := (0 : Int32)) rfl ?_
    refine Go.caload W6 0 d_method_4_43 Aq6 rfl (by omega) (by omega) (v := (cs.getD 0 0)) rfl ?_
    refine Go.castore W6 0 d_method_4_44 V6 (by simp) rfl (Nat.le_of_ble_eq_true rfl) (Nat.le_of_ble_eq_true rfl) (x' := (cs.getD 0 0)) (nar_ch (getD_ch hp (i := 0) (by omega))) ?_
    intro T7 h7 W7 K7 V7
    have V7 : CArr Z h7 a6 ka6 [(cs.getD 0 0), 0] := V7
    have N7 := N6.keep K7 (nin1 N5.1.lt g6)
    have X7 : Ext h0 h7 := ext_keep X6 K7 (all1 (by rw [g6]; exact E5.1))
    have Aq7 := Aq6.keep K7 (nin1 Aq5.lt g6)
    refine Go.dup W7.cx d_method_4_45 rfl ?_
    refine Go.iconst W7.cx d_method_4_46 (z := (1 : Int32)) rfl ?_
    refine Go.aload_n W7.cx d_method_4_47 (v := (.ref a)) rfl rfl ?_
    refine Go.iconst W7.cx d_method_4_48 (z := (1 : Int32)) rfl ?_
    refine Go.caload W7 1 d_method_4_49 Aq7 rfl (by omega) (by omega) (v := (cs.getD 1 0)) rfl ?_
    refine Go.castore W7 1 d_method_4_50 V7 (by simp) rfl (Nat.le_of_ble_eq_true rfl) (Nat.le_of_ble_eq_true rfl) (x' := (cs.getD 1 0)) (nar_ch (getD_ch hp (i := 1) (by omega))) ?_
    intro T8 h8 W8 K8 V8
    have V8 : CArr Z h8 a6 ka6 [(cs.getD 0 0), (cs.getD 1 0)] := V8
    have N8 := N7.keep K8 (nin1 N5.1.lt g6)
    have X8 : Ext h0 h8 := ext_keep X7 K8 (all1 (by rw [g6]; exact E5.1))
    have Aq8 := Aq7.keep K8 (nin1 Aq5.lt g6)
    have hp9 : ∀ c ∈ [(cs.getD 0 0), (cs.getD 1 0)], ¬ c < 0 ∧ ¬ (255 : Int32) < c := all_cons (getD_ch hp (i := 0) (by omega)) (all_cons (getD_ch hp (i := 1) (by omega)) (all_nil))
    refine Go.invi W8 (newStr (wt := 1) W8.ew hw hG N8 V8 (W8.mine (by simp)) (by simp) hp9 (Nat.le_of_ble_eq_true rfl) (Nat.le_of_ble_eq_true rfl) (by decide) (by decide)) d_method_4_51 rfl (wd hw 12 rfl) (wd hw 13 rfl) (wd hw 14 rfl) (by decide) pd_8 rfl rfl (rest := [(.ref a5)]) rfl (Nat.le_of_eq rfl) (cells' := 3) (slots' := 8) rfl rfl (by decide) (by decide) ?_
    rintro T10 h10 W10 z10 ⟨K10, S10⟩
    have X10 : Ext h0 h10 := ext_keep X8 K10 (all1 (Nat.le_of_eq g5.symm))
    exact Go.aret W10 d_method_4_54 rfl rfl rfl (by decide) (by decide) ⟨_, rfl, a5, rfl, X10, by rw [tk2 hn2]; exact S10⟩
  · refine Go.iload_n W0.cx d_method_4_0 (v := (Int32.ofNat 3)) rfl ?_
    refine Go.ifgt W0.cx d_method_4_1 (by decide) (q := 15) rfl (fun _ => ?_) (fun hh => (by first | exact absurd (by decide : (0 : Int32) < Int32.ofNat 3) hh | exact absurd hh (by decide : (0 : Int32) < Int32.ofNat 3)))
    refine Go.iload_n W0.cx d_method_4_15 (v := (Int32.ofNat 3)) rfl ?_
    refine Go.iconst W0.cx d_method_4_16 (z := (1 : Int32)) rfl ?_
    refine Go.icne W0.cx d_method_4_17 (by decide) (q := 27) rfl (fun _ => ?_) (fun hh => (by first | exact absurd (by decide : ¬ Int32.ofNat 3 = 1) hh | exact absurd hh (by decide : ¬ Int32.ofNat 3 = 1)))
    refine Go.iload_n W0.cx d_method_4_27 (v := (Int32.ofNat 3)) rfl ?_
    refine Go.iconst W0.cx d_method_4_28 (z := (2 : Int32)) rfl ?_
    refine Go.icne W0.cx d_method_4_29 (by decide) (q := 55) rfl (fun _ => ?_) (fun hh => (by first | exact absurd (by decide : ¬ Int32.ofNat 3 = 2) hh | exact absurd hh (by decide : ¬ Int32.ofNat 3 = 2)))
    refine Go.iload_n W0.cx d_method_4_55 (v := (Int32.ofNat 3)) rfl ?_
    refine Go.iconst W0.cx d_method_4_56 (z := (3 : Int32)) rfl ?_
    refine Go.icne W0.cx d_method_4_57 (by decide) (q := 89) rfl (fun hh => (by first | exact absurd (by decide : Int32.ofNat 3 = 3) hh | exact absurd hh (by decide : Int32.ofNat 3 = 3))) (fun _ => ?_)
    refine Go.new W0 d_method_4_60 (wd hw 9 rfl) (wd hw 10 rfl) (wd hw 11 rfl) (cells' := 1) (slots' := 4) rfl rfl (by decide) (by decide) ?_
    intro T11 h11 a11 g11 W11 E11 A11 D11
    have N11 : NewS Z h11 a11 := ⟨A11, D11 (Or.inr (wd hw 24 rfl)) (t := .array .byte) (by decide), D11 (Or.inr (wd hw 25 rfl)) (t := .byte) (by decide)⟩
    refine Go.dup W11.cx d_method_4_63 rfl ?_
    refine Go.iconst W11.cx d_method_4_64 (z := (3 : Int32)) rfl ?_
    refine Go.newarr W11 d_method_4_65 (wd hw 0 rfl) (z := (3 : Int32)) (cap := 3) (by decide) (by decide) (by decide) (cells' := 2) (slots' := 7) rfl rfl (by decide) (by decide) ?_
    intro T12 h12 a12 ka12 g12 W12 E12 A12
    have V12 : CArr Z h12 a12 ka12 [0, 0, 0] := CArr.of_new A12 (k := 3) rfl rfl
    have X12 : Ext h0 h12 := ext_trans E11 E12
    have N12 := N11.ext E12
    have Aq11 := A.ext E11
    have Aq12 := Aq11.ext E12
    refine Go.dup W12.cx d_method_4_67 rfl ?_
    refine Go.iconst W12.cx d_method_4_68 (z := (0 : Int32)) rfl ?_
    refine Go.aload_n W12.cx d_method_4_69 (v := (.ref a)) rfl rfl ?_
    refine Go.iconst W12.cx d_method_4_70 (z := (0 : Int32)) rfl ?_
    refine Go.caload W12 0 d_method_4_71 Aq12 rfl (by omega) (by omega) (v := (cs.getD 0 0)) rfl ?_
    refine Go.castore W12 0 d_method_4_72 V12 (by simp) rfl (Nat.le_of_ble_eq_true rfl) (Nat.le_of_ble_eq_true rfl) (x' := (cs.getD 0 0)) (nar_ch (getD_ch hp (i := 0) (by omega))) ?_
    intro T13 h13 W13 K13 V13
    have V13 : CArr Z h13 a12 ka12 [(cs.getD 0 0), 0, 0] := V13
    have N13 := N12.keep K13 (nin1 N11.1.lt g12)
    have X13 : Ext h0 h13 := ext_keep X12 K13 (all1 (by rw [g12]; exact E11.1))
    have Aq13 := Aq12.keep K13 (nin1 Aq11.lt g12)
    refine Go.dup W13.cx d_method_4_73 rfl ?_
    refine Go.iconst W13.cx d_method_4_74 (z := (1 : Int32)) rfl ?_
    refine Go.aload_n W13.cx d_method_4_75 (v := (.ref a)) rfl rfl ?_
    refine Go.iconst W13.cx d_method_4_76 (z := (1 : Int32)) rfl ?_
    refine Go.caload W13 1 d_method_4_77 Aq13 rfl (by omega) (by omega) (v := (cs.getD 1 0)) rfl ?_
    refine Go.castore W13 1 d_method_4_78 V13 (by simp) rfl (Nat.le_of_ble_eq_true rfl) (Nat.le_of_ble_eq_true rfl) (x' := (cs.getD 1 0)) (nar_ch (getD_ch hp (i := 1) (by omega))) ?_
    intro T14 h14 W14 K14 V14
    have V14 : CArr Z h14 a12 ka12 [(cs.getD 0 0), (cs.getD 1 0), 0] := V14
    have N14 := N13.keep K14 (nin1 N11.1.lt g12)
    have X14 : Ext h0 h14 := ext_keep X13 K14 (all1 (by rw [g12]; exact E11.1))
    have Aq14 := Aq13.keep K14 (nin1 Aq11.lt g12)
    refine Go.dup W14.cx d_method_4_79 rfl ?_
    refine Go.iconst W14.cx d_method_4_80 (z := (2 : Int32)) rfl ?_
    refine Go.aload_n W14.cx d_method_4_81 (v := (.ref a)) rfl rfl ?_
    refine Go.iconst W14.cx d_method_4_82 (z := (2 : Int32)) rfl ?_
    refine Go.caload W14 2 d_method_4_83 Aq14 rfl (by omega) (by omega) (v := (cs.getD 2 0)) rfl ?_
    refine Go.castore W14 2 d_method_4_84 V14 (by simp) rfl (Nat.le_of_ble_eq_true rfl) (Nat.le_of_ble_eq_true rfl) (x' := (cs.getD 2 0)) (nar_ch (getD_ch hp (i := 2) (by omega))) ?_
    intro T15 h15 W15 K15 V15
    have V15 : CArr Z h15 a12 ka12 [(cs.getD 0 0), (cs.getD 1 0), (cs.getD 2 0)] := V15
    have N15 := N14.keep K15 (nin1 N11.1.lt g12)
    have X15 : Ext h0 h15 := ext_keep X14 K15 (all1 (by rw [g12]; exact E11.1))
    have Aq15 := Aq14.keep K15 (nin1 Aq11.lt g12)
    have hp16 : ∀ c ∈ [(cs.getD 0 0), (cs.getD 1 0), (cs.getD 2 0)], ¬ c < 0 ∧ ¬ (255 : Int32) < c := all_cons (getD_ch hp (i := 0) (by omega)) (all_cons (getD_ch hp (i := 1) (by omega)) (all_cons (getD_ch hp (i := 2) (by omega)) (all_nil)))
    refine Go.invi W15 (newStr (wt := 1) W15.ew hw hG N15 V15 (W15.mine (by simp)) (by simp) hp16 (Nat.le_of_ble_eq_true rfl) (Nat.le_of_ble_eq_true rfl) (by decide) (by decide)) d_method_4_85 rfl (wd hw 12 rfl) (wd hw 13 rfl) (wd hw 14 rfl) (by decide) pd_8 rfl rfl (rest := [(.ref a11)]) rfl (Nat.le_of_eq rfl) (cells' := 3) (slots' := 10) rfl rfl (by decide) (by decide) ?_
    rintro T17 h17 W17 z17 ⟨K17, S17⟩
    have X17 : Ext h0 h17 := ext_keep X15 K17 (all1 (Nat.le_of_eq g11.symm))
    exact Go.aret W17 d_method_4_88 rfl rfl rfl (by decide) (by decide) ⟨_, rfl, a11, rfl, X17, by rw [tk3 hn2]; exact S17⟩
  · refine Go.iload_n W0.cx d_method_4_0 (v := (Int32.ofNat 4)) rfl ?_
    refine Go.ifgt W0.cx d_method_4_1 (by decide) (q := 15) rfl (fun _ => ?_) (fun hh => (by first | exact absurd (by decide : (0 : Int32) < Int32.ofNat 4) hh | exact absurd hh (by decide : (0 : Int32) < Int32.ofNat 4)))
    refine Go.iload_n W0.cx d_method_4_15 (v := (Int32.ofNat 4)) rfl ?_
    refine Go.iconst W0.cx d_method_4_16 (z := (1 : Int32)) rfl ?_
    refine Go.icne W0.cx d_method_4_17 (by decide) (q := 27) rfl (fun _ => ?_) (fun hh => (by first | exact absurd (by decide : ¬ Int32.ofNat 4 = 1) hh | exact absurd hh (by decide : ¬ Int32.ofNat 4 = 1)))
    refine Go.iload_n W0.cx d_method_4_27 (v := (Int32.ofNat 4)) rfl ?_
    refine Go.iconst W0.cx d_method_4_28 (z := (2 : Int32)) rfl ?_
    refine Go.icne W0.cx d_method_4_29 (by decide) (q := 55) rfl (fun _ => ?_) (fun hh => (by first | exact absurd (by decide : ¬ Int32.ofNat 4 = 2) hh | exact absurd hh (by decide : ¬ Int32.ofNat 4 = 2)))
    refine Go.iload_n W0.cx d_method_4_55 (v := (Int32.ofNat 4)) rfl ?_
    refine Go.iconst W0.cx d_method_4_56 (z := (3 : Int32)) rfl ?_
    refine Go.icne W0.cx d_method_4_57 (by decide) (q := 89) rfl (fun _ => ?_) (fun hh => (by first | exact absurd (by decide : ¬ Int32.ofNat 4 = 3) hh | exact absurd hh (by decide : ¬ Int32.ofNat 4 = 3)))
    refine Go.new W0 d_method_4_89 (wd hw 9 rfl) (wd hw 10 rfl) (wd hw 11 rfl) (cells' := 1) (slots' := 4) rfl rfl (by decide) (by decide) ?_
    intro T18 h18 a18 g18 W18 E18 A18 D18
    have N18 : NewS Z h18 a18 := ⟨A18, D18 (Or.inr (wd hw 24 rfl)) (t := .array .byte) (by decide), D18 (Or.inr (wd hw 25 rfl)) (t := .byte) (by decide)⟩
    refine Go.dup W18.cx d_method_4_92 rfl ?_
    refine Go.iconst W18.cx d_method_4_93 (z := (4 : Int32)) rfl ?_
    refine Go.newarr W18 d_method_4_94 (wd hw 0 rfl) (z := (4 : Int32)) (cap := 4) (by decide) (by decide) (by decide) (cells' := 2) (slots' := 8) rfl rfl (by decide) (by decide) ?_
    intro T19 h19 a19 ka19 g19 W19 E19 A19
    have V19 : CArr Z h19 a19 ka19 [0, 0, 0, 0] := CArr.of_new A19 (k := 4) rfl rfl
    have X19 : Ext h0 h19 := ext_trans E18 E19
    have N19 := N18.ext E19
    have Aq18 := A.ext E18
    have Aq19 := Aq18.ext E19
    refine Go.dup W19.cx d_method_4_96 rfl ?_
    refine Go.iconst W19.cx d_method_4_97 (z := (0 : Int32)) rfl ?_
    refine Go.aload_n W19.cx d_method_4_98 (v := (.ref a)) rfl rfl ?_
    refine Go.iconst W19.cx d_method_4_99 (z := (0 : Int32)) rfl ?_
    refine Go.caload W19 0 d_method_4_100 Aq19 rfl (by omega) (by omega) (v := (cs.getD 0 0)) rfl ?_
    refine Go.castore W19 0 d_method_4_101 V19 (by simp) rfl (Nat.le_of_ble_eq_true rfl) (Nat.le_of_ble_eq_true rfl) (x' := (cs.getD 0 0)) (nar_ch (getD_ch hp (i := 0) (by omega))) ?_
    intro T20 h20 W20 K20 V20
    have V20 : CArr Z h20 a19 ka19 [(cs.getD 0 0), 0, 0, 0] := V20
    have N20 := N19.keep K20 (nin1 N18.1.lt g19)
    have X20 : Ext h0 h20 := ext_keep X19 K20 (all1 (by rw [g19]; exact E18.1))
    have Aq20 := Aq19.keep K20 (nin1 Aq18.lt g19)
    refine Go.dup W20.cx d_method_4_102 rfl ?_
    refine Go.iconst W20.cx d_method_4_103 (z := (1 : Int32)) rfl ?_
    refine Go.aload_n W20.cx d_method_4_104 (v := (.ref a)) rfl rfl ?_
    refine Go.iconst W20.cx d_method_4_105 (z := (1 : Int32)) rfl ?_
    refine Go.caload W20 1 d_method_4_106 Aq20 rfl (by omega) (by omega) (v := (cs.getD 1 0)) rfl ?_
    refine Go.castore W20 1 d_method_4_107 V20 (by simp) rfl (Nat.le_of_ble_eq_true rfl) (Nat.le_of_ble_eq_true rfl) (x' := (cs.getD 1 0)) (nar_ch (getD_ch hp (i := 1) (by omega))) ?_
    intro T21 h21 W21 K21 V21
    have V21 : CArr Z h21 a19 ka19 [(cs.getD 0 0), (cs.getD 1 0), 0, 0] := V21
    have N21 := N20.keep K21 (nin1 N18.1.lt g19)
    have X21 : Ext h0 h21 := ext_keep X20 K21 (all1 (by rw [g19]; exact E18.1))
    have Aq21 := Aq20.keep K21 (nin1 Aq18.lt g19)
    refine Go.dup W21.cx d_method_4_108 rfl ?_
    refine Go.iconst W21.cx d_method_4_109 (z := (2 : Int32)) rfl ?_
    refine Go.aload_n W21.cx d_method_4_110 (v := (.ref a)) rfl rfl ?_
    refine Go.iconst W21.cx d_method_4_111 (z := (2 : Int32)) rfl ?_
    refine Go.caload W21 2 d_method_4_112 Aq21 rfl (by omega) (by omega) (v := (cs.getD 2 0)) rfl ?_
    refine Go.castore W21 2 d_method_4_113 V21 (by simp) rfl (Nat.le_of_ble_eq_true rfl) (Nat.le_of_ble_eq_true rfl) (x' := (cs.getD 2 0)) (nar_ch (getD_ch hp (i := 2) (by omega))) ?_
    intro T22 h22 W22 K22 V22
    have V22 : CArr Z h22 a19 ka19 [(cs.getD 0 0), (cs.getD 1 0), (cs.getD 2 0), 0] := V22
    have N22 := N21.keep K22 (nin1 N18.1.lt g19)
    have X22 : Ext h0 h22 := ext_keep X21 K22 (all1 (by rw [g19]; exact E18.1))
    have Aq22 := Aq21.keep K22 (nin1 Aq18.lt g19)
    refine Go.dup W22.cx d_method_4_114 rfl ?_
    refine Go.iconst W22.cx d_method_4_115 (z := (3 : Int32)) rfl ?_
    refine Go.aload_n W22.cx d_method_4_116 (v := (.ref a)) rfl rfl ?_
    refine Go.iconst W22.cx d_method_4_117 (z := (3 : Int32)) rfl ?_
    refine Go.caload W22 3 d_method_4_118 Aq22 rfl (by omega) (by omega) (v := (cs.getD 3 0)) rfl ?_
    refine Go.castore W22 3 d_method_4_119 V22 (by simp) rfl (Nat.le_of_ble_eq_true rfl) (Nat.le_of_ble_eq_true rfl) (x' := (cs.getD 3 0)) (nar_ch (getD_ch hp (i := 3) (by omega))) ?_
    intro T23 h23 W23 K23 V23
    have V23 : CArr Z h23 a19 ka19 [(cs.getD 0 0), (cs.getD 1 0), (cs.getD 2 0), (cs.getD 3 0)] := V23
    have N23 := N22.keep K23 (nin1 N18.1.lt g19)
    have X23 : Ext h0 h23 := ext_keep X22 K23 (all1 (by rw [g19]; exact E18.1))
    have Aq23 := Aq22.keep K23 (nin1 Aq18.lt g19)
    have hp24 : ∀ c ∈ [(cs.getD 0 0), (cs.getD 1 0), (cs.getD 2 0), (cs.getD 3 0)], ¬ c < 0 ∧ ¬ (255 : Int32) < c := all_cons (getD_ch hp (i := 0) (by omega)) (all_cons (getD_ch hp (i := 1) (by omega)) (all_cons (getD_ch hp (i := 2) (by omega)) (all_cons (getD_ch hp (i := 3) (by omega)) (all_nil))))
    refine Go.invi W23 (newStr (wt := 1) W23.ew hw hG N23 V23 (W23.mine (by simp)) (by simp) hp24 (Nat.le_of_ble_eq_true rfl) (Nat.le_of_ble_eq_true rfl) (by decide) (by decide)) d_method_4_120 rfl (wd hw 12 rfl) (wd hw 13 rfl) (wd hw 14 rfl) (by decide) pd_8 rfl rfl (rest := [(.ref a18)]) rfl (Nat.le_of_eq rfl) (cells' := 3) (slots' := 12) rfl rfl (by decide) (by decide) ?_
    rintro T25 h25 W25 z25 ⟨K25, S25⟩
    have X25 : Ext h0 h25 := ext_keep X23 K25 (all1 (Nat.le_of_eq g18.symm))
    exact Go.aret W25 d_method_4_123 rfl rfl rfl (by decide) (by decide) ⟨_, rfl, a18, rfl, X25, by rw [tk4 hn2]; exact S25⟩
theorem pn_4 : plainName "com/example/actions_to_pages/actionstopages/RequestPaths" = true := by first | (simp [plainName, overriddenIn]; done) | decide +kernel
theorem d_prog_1_method_5_0 : Dec prog_1_method_5_code 0 (.aload_n 0) 1 1 := ⟨by decide +kernel, rfl⟩
theorem d_prog_1_method_5_1 : Dec prog_1_method_5_code 1 (.aload_n 1) 1 2 := ⟨by decide +kernel, rfl⟩
theorem d_prog_1_method_5_2 : Dec prog_1_method_5_code 2 (.invokevirtual 34) 3 5 := ⟨by decide +kernel, rfl⟩
theorem pd_10 : parseMethodDescriptor "(Ljava/lang/String;)Z" = some ⟨[(.object "java/lang/String")], some .boolean⟩ := by decide +kernel
theorem d_prog_1_method_5_5 : Dec prog_1_method_5_code 5 (.ifCond .eq 40) 3 8 := ⟨by decide +kernel, rfl⟩
theorem d_prog_1_method_5_45 : Dec prog_1_method_5_code 45 (.iconst 0) 1 46 := ⟨by decide +kernel, rfl⟩
theorem d_prog_1_method_5_46 : Dec prog_1_method_5_code 46 (.ireturn) 1 47 := ⟨by decide +kernel, rfl⟩
theorem d_prog_1_method_5_8 : Dec prog_1_method_5_code 8 (.aload_n 0) 1 9 := ⟨by decide +kernel, rfl⟩
theorem d_prog_1_method_5_9 : Dec prog_1_method_5_code 9 (.invokevirtual 84) 3 12 := ⟨by decide +kernel, rfl⟩
theorem d_prog_1_method_5_12 : Dec prog_1_method_5_code 12 (.aload_n 1) 1 13 := ⟨by decide +kernel, rfl⟩
theorem d_prog_1_method_5_13 : Dec prog_1_method_5_code 13 (.invokevirtual 84) 3 16 := ⟨by decide +kernel, rfl⟩
theorem d_prog_1_method_5_16 : Dec prog_1_method_5_code 16 (.if_icmp .eq 25) 3 19 := ⟨by decide +kernel, rfl⟩
theorem d_prog_1_method_5_41 : Dec prog_1_method_5_code 41 (.iconst 1) 1 42 := ⟨by decide +kernel, rfl⟩
theorem d_prog_1_method_5_42 : Dec prog_1_method_5_code 42 (.goto 4) 3 45 := ⟨by decide +kernel, rfl⟩
theorem d_prog_1_method_5_19 : Dec prog_1_method_5_code 19 (.aload_n 1) 1 20 := ⟨by decide +kernel, rfl⟩
theorem d_prog_1_method_5_20 : Dec prog_1_method_5_code 20 (.ldc 32) 2 22 := ⟨by decide +kernel, rfl⟩
theorem d_prog_1_method_5_22 : Dec prog_1_method_5_code 22 (.invokevirtual 88) 3 25 := ⟨by decide +kernel, rfl⟩
theorem d_prog_1_method_5_25 : Dec prog_1_method_5_code 25 (.ifCond .ne 16) 3 28 := ⟨by decide +kernel, rfl⟩
theorem d_prog_1_method_5_28 : Dec prog_1_method_5_code 28 (.aload_n 0) 1 29 := ⟨by decide +kernel, rfl⟩
theorem d_prog_1_method_5_29 : Dec prog_1_method_5_code 29 (.aload_n 1) 1 30 := ⟨by decide +kernel, rfl⟩
theorem d_prog_1_method_5_30 : Dec prog_1_method_5_code 30 (.invokevirtual 84) 3 33 := ⟨by decide +kernel, rfl⟩
theorem d_prog_1_method_5_33 : Dec prog_1_method_5_code 33 (.invokevirtual 91) 3 36 := ⟨by decide +kernel, rfl⟩
theorem pd_11 : parseMethodDescriptor "(I)C" = some ⟨[.int], some .char⟩ := by decide +kernel
theorem d_prog_1_method_5_36 : Dec prog_1_method_5_code 36 (.bipush 47) 2 38 := ⟨by decide +kernel, rfl⟩
theorem d_prog_1_method_5_38 : Dec prog_1_method_5_code 38 (.if_icmp .ne 7) 3 41 := ⟨by decide +kernel, rfl⟩
set_option maxRecDepth 65536 in
set_option maxHeartbeats 40000000 in
theorem c_under (l : Launch) (Z : State) (a0 : Array Value) (hw : ∀ d ∈ tables_1, d.before a0 Z = true) (hE : EW Z a0 EL0) {n0 : Nat} {h0 : Heap} (hO : Old Z n0 h0) (hG : Gl Z) {a b : Addr} {cs ds : List Int32} (S : Str Z h0 a cs) (S2 : Str Z h0 b ds) (h7 : ds.length ≤ 7) :
    Ctr NW EL0 n0 Z [] l (⟨"com/example/actions_to_pages/actionstopages/RequestPaths", "isUnder", "(Ljava/lang/String;Ljava/lang/String;)Z"⟩ : MethodName) prog_1_method_5_code 2 (some .boolean) ({ frames := 4, cells := 2, slots := 8, locals := 59 } : Room) #[.ref a, .ref b] h0 (RV fun w h => ∃ z : Int32, w = .int z ∧ Bo (Under cs ds) z) := by
  refine Ctr.body (plainFor_of_name pn_4) hE hO (fun x q => nomatch q) (L0 := #[.val (.ref a), .val (.ref b)]) (fun m => by first | (simp [entryFrame, mkF, argsToLocals, Value.category, maxLocals]; done) | rfl) ?_
  intro p e s m below meth c T0 W0
  have hl1 := S.2.2.2.2
  have hl2 := S2.2.2.2.2
  refine Go.aload_n W0.cx d_prog_1_method_5_0 (v := (.ref a)) rfl rfl ?_
  refine Go.aload_n W0.cx d_prog_1_method_5_1 (v := (.ref b)) rfl rfl ?_
  refine Go.invv1 W0 (Ctr.call (wt := 0) (c_sw1 l Z a0 hw hE W0.old hG S S2 h7) W0.ew (wd hw 38 rfl) (wd hw 11 rfl) (by simp) (by decide) (by decide)) d_prog_1_method_5_2 (wd hw 34 rfl) (wd hw 35 rfl) (wd hw 37 rfl) (wd hw 36 rfl) (by decide) S.exa pd_10 rfl rfl (rest := []) rfl (Nat.le_of_eq rfl) (cells' := 0) (slots' := 0) rfl rfl (by decide) (by decide) ?_
  rintro T1 h1 _ W1 z1 ⟨y1, rfl, B1, e1⟩
  subst e1
  refine Go.ifeq W1.cx d_prog_1_method_5_5 (by decide) (q := 45) rfl (fun c1 => ?_) (fun c1 => ?_)
  · refine Go.iconst W1.cx d_prog_1_method_5_45 (z := (0 : Int32)) rfl ?_
    exact Go.iret W1 d_prog_1_method_5_46 (by simp) rfl (by decide) (by decide) ⟨_, rfl, _, rfl, Bo.ff (fun z => B1.no c1 z.1)⟩
  · have hsw := B1.yes c1
    refine Go.aload_n W1.cx d_prog_1_method_5_8 (v := (.ref a)) rfl rfl ?_
    refine Go.invv1 W1 (strLen (wt := 0) W1.ew hw hG S (by decide) (by decide)) d_prog_1_method_5_9 (wd hw 59 rfl) (wd hw 45 rfl) (wd hw 47 rfl) (wd hw 46 rfl) (by decide) S.exa pd_1 rfl rfl (rest := []) rfl (Nat.le_of_eq rfl) (cells' := 0) (slots' := 0) rfl rfl (by decide) (by decide) ?_
    rintro T2 h2 _ W2 z2 ⟨rfl, e2⟩
    subst e2
    refine Go.aload_n W2.cx d_prog_1_method_5_12 (v := (.ref b)) rfl rfl ?_
    refine Go.invv1 W2 (strLen (wt := 1) W2.ew hw hG S2 (by decide) (by decide)) d_prog_1_method_5_13 (wd hw 59 rfl) (wd hw 45 rfl) (wd hw 47 rfl) (wd hw 46 rfl) (by decide) S2.exa pd_1 rfl rfl (rest := [(.int (Int32.ofNat cs.length))]) rfl (Nat.le_of_eq rfl) (cells' := 0) (slots' := 0) rfl rfl (by decide) (by decide) ?_
    rintro T3 h3 _ W3 z3 ⟨rfl, e3⟩
    subst e3
    have hq := eq_nat (a := cs.length) (b := ds.length) (by omega) (by omega)
    refine Go.iceq W3.cx d_prog_1_method_5_16 (by decide) (q := 41) rfl (fun c2 => ?_) (fun c2 => ?_)
    · refine Go.iconst W3.cx d_prog_1_method_5_41 (z := (1 : Int32)) rfl ?_
      refine Go.goto W3.cx d_prog_1_method_5_42 (by decide) (q := 46) rfl ?_
      exact Go.iret W3 d_prog_1_method_5_46 (by simp) rfl (by decide) (by decide) ⟨_, rfl, _, rfl, Bo.tt ⟨hsw, Or.inl (hq.mp c2)⟩⟩
    · have hlt : ds.length < cs.length := by have h1 := hsw.1; have h2 : ¬ cs.length = ds.length := fun z => c2 (hq.mpr z); omega
      refine Go.aload_n W3.cx d_prog_1_method_5_19 (v := (.ref b)) rfl rfl ?_
      refine Go.ldcS W3 (fun q => q) d_prog_1_method_5_20 (wd hw 74 rfl) (wS hw) (by decide) (cs := [47]) ⟨by decide, by decide +kernel⟩ (by decide) (by decide) (nn := 4) (by decide) (by decide) (cells' := 2) (slots' := 8) rfl rfl (by decide) (by decide) ?_
      intro T4 h4 l4 b4 kb4 W4 E4 A4 C4 V4 B4 X4 S4
      have Sa := S.ext E4
      have Sb := S2.ext E4
      refine Go.invv1 W4 (Ctr.call (wt := 0) (c_ew l Z a0 hw hE W4.old hG Sb S4 (by decide)) W4.ew (wd hw 79 rfl) (wd hw 11 rfl) (by simp) (by decide) (by decide)) d_prog_1_method_5_22 (wd hw 75 rfl) (wd hw 76 rfl) (wd hw 78 rfl) (wd hw 77 rfl) (by decide) Sb.exa pd_10 rfl rfl (rest := []) rfl (Nat.le_of_eq rfl) (cells' := 2) (slots' := 8) rfl rfl (by decide) (by decide) ?_
      rintro T5 h5 _ W5 z5 ⟨y5, rfl, B5, e5⟩
      subst e5
      refine Go.ifne W5.cx d_prog_1_method_5_25 (by decide) (q := 41) rfl (fun c3 => ?_) (fun c3 => ?_)
      · refine Go.iconst W5.cx d_prog_1_method_5_41 (z := (1 : Int32)) rfl ?_
        refine Go.goto W5.cx d_prog_1_method_5_42 (by decide) (q := 46) rfl ?_
        exact Go.iret W5 d_prog_1_method_5_46 (by simp) rfl (by decide) (by decide) ⟨_, rfl, _, rfl, Bo.tt ⟨hsw, Or.inr (Or.inl (B5.yes c3))⟩⟩
      · refine Go.aload_n W5.cx d_prog_1_method_5_28 (v := (.ref a)) rfl rfl ?_
        refine Go.aload_n W5.cx d_prog_1_method_5_29 (v := (.ref b)) rfl rfl ?_
        refine Go.invv1 W5 (strLen (wt := 1) W5.ew hw hG Sb (by decide) (by decide)) d_prog_1_method_5_30 (wd hw 59 rfl) (wd hw 45 rfl) (wd hw 47 rfl) (wd hw 46 rfl) (by decide) Sb.exa pd_1 rfl rfl (rest := [(.ref a)]) rfl (Nat.le_of_eq rfl) (cells' := 2) (slots' := 8) rfl rfl (by decide) (by decide) ?_
        rintro T6 h6 _ W6 z6 ⟨rfl, e6⟩
        subst e6
        refine Go.invv1 W6 (strAt (wt := 0) W6.ew hw hG ds.length Sa hlt rfl (by decide) (by decide)) d_prog_1_method_5_33 (wd hw 80 rfl) (wd hw 81 rfl) (wd hw 83 rfl) (wd hw 82 rfl) (by decide) Sa.exa pd_11 rfl rfl (rest := []) rfl (Nat.le_of_eq rfl) (cells' := 2) (slots' := 8) rfl rfl (by decide) (by decide) ?_
        rintro T7 h7 _ W7 z7 ⟨rfl, e7⟩
        subst e7
        refine Go.bipush W7.cx d_prog_1_method_5_36 (z := (47 : Int32)) rfl ?_
        refine Go.icne W7.cx d_prog_1_method_5_38 (by decide) (q := 45) rfl (fun c4 => ?_) (fun c4 => ?_)
        · refine Go.iconst W7.cx d_prog_1_method_5_45 (z := (0 : Int32)) rfl ?_
          exact Go.iret W7 d_prog_1_method_5_46 (by simp) rfl (by decide) (by decide) ⟨_, rfl, _, rfl, Bo.ff (fun z => z.2.elim (fun q => c2 (hq.mpr q)) (fun q => q.elim (B5.no c3) c4))⟩
        · refine Go.iconst W7.cx d_prog_1_method_5_41 (z := (1 : Int32)) rfl ?_
          refine Go.goto W7.cx d_prog_1_method_5_42 (by decide) (q := 46) rfl ?_
          exact Go.iret W7 d_prog_1_method_5_46 (by simp) rfl (by decide) (by decide) ⟨_, rfl, _, rfl, Bo.tt ⟨hsw, Or.inr (Or.inr c4)⟩⟩
theorem d_code_0 : Dec code 0 (.iload_n 0) 1 1 := ⟨by decide +kernel, rfl⟩
theorem d_code_1 : Dec code 1 (.iconst 3) 1 2 := ⟨by decide +kernel, rfl⟩
theorem d_code_2 : Dec code 2 (.iand) 1 3 := ⟨by decide +kernel, rfl⟩
theorem d_code_3 : Dec code 3 (.istore 5) 2 5 := ⟨by decide +kernel, rfl⟩
theorem d_code_5 : Dec code 5 (.iload_n 0) 1 6 := ⟨by decide +kernel, rfl⟩
theorem d_code_6 : Dec code 6 (.iconst 2) 1 7 := ⟨by decide +kernel, rfl⟩
theorem d_code_7 : Dec code 7 (.iushr) 1 8 := ⟨by decide +kernel, rfl⟩
theorem d_code_8 : Dec code 8 (.bipush 7) 2 10 := ⟨by decide +kernel, rfl⟩
theorem d_code_10 : Dec code 10 (.iand) 1 11 := ⟨by decide +kernel, rfl⟩
theorem d_code_11 : Dec code 11 (.iconst 5) 1 12 := ⟨by decide +kernel, rfl⟩
theorem d_code_12 : Dec code 12 (.irem) 1 13 := ⟨by decide +kernel, rfl⟩
theorem d_code_13 : Dec code 13 (.istore 6) 2 15 := ⟨by decide +kernel, rfl⟩
theorem d_code_15 : Dec code 15 (.iload_n 0) 1 16 := ⟨by decide +kernel, rfl⟩
theorem d_code_16 : Dec code 16 (.iconst 5) 1 17 := ⟨by decide +kernel, rfl⟩
theorem d_code_17 : Dec code 17 (.iushr) 1 18 := ⟨by decide +kernel, rfl⟩
theorem d_code_18 : Dec code 18 (.iconst 1) 1 19 := ⟨by decide +kernel, rfl⟩
theorem d_code_19 : Dec code 19 (.iand) 1 20 := ⟨by decide +kernel, rfl⟩
theorem d_code_28 : Dec code 28 (.istore 7) 2 30 := ⟨by decide +kernel, rfl⟩
theorem d_code_30 : Dec code 30 (.iconst 3) 1 31 := ⟨by decide +kernel, rfl⟩
theorem d_code_31 : Dec code 31 (.newarray .char) 2 33 := ⟨by decide +kernel, rfl⟩
theorem d_code_33 : Dec code 33 (.dup) 1 34 := ⟨by decide +kernel, rfl⟩
theorem d_code_34 : Dec code 34 (.iconst 0) 1 35 := ⟨by decide +kernel, rfl⟩
theorem d_code_35 : Dec code 35 (.lload_n 3) 1 36 := ⟨by decide +kernel, rfl⟩
theorem d_code_36 : Dec code 36 (.iconst 0) 1 37 := ⟨by decide +kernel, rfl⟩
theorem d_code_37 : Dec code 37 (.invokestatic 7) 3 40 := ⟨by decide +kernel, rfl⟩
theorem pd_12 : parseMethodDescriptor "(JI)C" = some ⟨[.long, .int], some .char⟩ := by decide +kernel
theorem d_code_40 : Dec code 40 (.castore) 1 41 := ⟨by decide +kernel, rfl⟩
theorem d_code_41 : Dec code 41 (.dup) 1 42 := ⟨by decide +kernel, rfl⟩
theorem d_code_42 : Dec code 42 (.iconst 1) 1 43 := ⟨by decide +kernel, rfl⟩
theorem d_code_43 : Dec code 43 (.lload_n 3) 1 44 := ⟨by decide +kernel, rfl⟩
theorem d_code_44 : Dec code 44 (.iconst 1) 1 45 := ⟨by decide +kernel, rfl⟩
theorem d_code_45 : Dec code 45 (.invokestatic 7) 3 48 := ⟨by decide +kernel, rfl⟩
theorem d_code_48 : Dec code 48 (.castore) 1 49 := ⟨by decide +kernel, rfl⟩
theorem d_code_49 : Dec code 49 (.dup) 1 50 := ⟨by decide +kernel, rfl⟩
theorem d_code_50 : Dec code 50 (.iconst 2) 1 51 := ⟨by decide +kernel, rfl⟩
theorem d_code_51 : Dec code 51 (.lload_n 3) 1 52 := ⟨by decide +kernel, rfl⟩
theorem d_code_52 : Dec code 52 (.iconst 2) 1 53 := ⟨by decide +kernel, rfl⟩
theorem d_code_53 : Dec code 53 (.invokestatic 7) 3 56 := ⟨by decide +kernel, rfl⟩
theorem d_code_56 : Dec code 56 (.castore) 1 57 := ⟨by decide +kernel, rfl⟩
theorem d_code_57 : Dec code 57 (.astore 8) 2 59 := ⟨by decide +kernel, rfl⟩
theorem d_code_59 : Dec code 59 (.iconst 4) 1 60 := ⟨by decide +kernel, rfl⟩
theorem d_code_60 : Dec code 60 (.newarray .char) 2 62 := ⟨by decide +kernel, rfl⟩
theorem d_code_62 : Dec code 62 (.dup) 1 63 := ⟨by decide +kernel, rfl⟩
theorem d_code_63 : Dec code 63 (.iconst 0) 1 64 := ⟨by decide +kernel, rfl⟩
theorem d_code_64 : Dec code 64 (.lload_n 1) 1 65 := ⟨by decide +kernel, rfl⟩
theorem d_code_65 : Dec code 65 (.iconst 0) 1 66 := ⟨by decide +kernel, rfl⟩
theorem d_code_66 : Dec code 66 (.invokestatic 7) 3 69 := ⟨by decide +kernel, rfl⟩
theorem d_code_69 : Dec code 69 (.castore) 1 70 := ⟨by decide +kernel, rfl⟩
theorem d_code_70 : Dec code 70 (.dup) 1 71 := ⟨by decide +kernel, rfl⟩
theorem d_code_71 : Dec code 71 (.iconst 1) 1 72 := ⟨by decide +kernel, rfl⟩
theorem d_code_72 : Dec code 72 (.lload_n 1) 1 73 := ⟨by decide +kernel, rfl⟩
theorem d_code_73 : Dec code 73 (.iconst 1) 1 74 := ⟨by decide +kernel, rfl⟩
theorem d_code_74 : Dec code 74 (.invokestatic 7) 3 77 := ⟨by decide +kernel, rfl⟩
theorem d_code_77 : Dec code 77 (.castore) 1 78 := ⟨by decide +kernel, rfl⟩
theorem d_code_78 : Dec code 78 (.dup) 1 79 := ⟨by decide +kernel, rfl⟩
theorem d_code_79 : Dec code 79 (.iconst 2) 1 80 := ⟨by decide +kernel, rfl⟩
theorem d_code_80 : Dec code 80 (.lload_n 1) 1 81 := ⟨by decide +kernel, rfl⟩
theorem d_code_81 : Dec code 81 (.iconst 2) 1 82 := ⟨by decide +kernel, rfl⟩
theorem d_code_82 : Dec code 82 (.invokestatic 7) 3 85 := ⟨by decide +kernel, rfl⟩
theorem d_code_85 : Dec code 85 (.castore) 1 86 := ⟨by decide +kernel, rfl⟩
theorem d_code_86 : Dec code 86 (.dup) 1 87 := ⟨by decide +kernel, rfl⟩
theorem d_code_87 : Dec code 87 (.iconst 3) 1 88 := ⟨by decide +kernel, rfl⟩
theorem d_code_88 : Dec code 88 (.lload_n 1) 1 89 := ⟨by decide +kernel, rfl⟩
theorem d_code_89 : Dec code 89 (.iconst 3) 1 90 := ⟨by decide +kernel, rfl⟩
theorem d_code_90 : Dec code 90 (.invokestatic 7) 3 93 := ⟨by decide +kernel, rfl⟩
theorem d_code_93 : Dec code 93 (.castore) 1 94 := ⟨by decide +kernel, rfl⟩
theorem d_code_94 : Dec code 94 (.astore 9) 2 96 := ⟨by decide +kernel, rfl⟩
theorem d_code_96 : Dec code 96 (.iload 7) 2 98 := ⟨by decide +kernel, rfl⟩
theorem d_code_98 : Dec code 98 (.ifCond .eq 27) 3 101 := ⟨by decide +kernel, rfl⟩
theorem d_code_125 : Dec code 125 (.aload 9) 2 127 := ⟨by decide +kernel, rfl⟩
theorem d_code_127 : Dec code 127 (.iload 6) 2 129 := ⟨by decide +kernel, rfl⟩
theorem d_code_129 : Dec code 129 (.invokestatic 13) 3 132 := ⟨by decide +kernel, rfl⟩
theorem pd_13 : parseMethodDescriptor "([CI)Ljava/lang/String;" = some ⟨[(.array .char), .int], some (.object "java/lang/String")⟩ := by decide +kernel
theorem d_code_132 : Dec code 132 (.astore 10) 2 134 := ⟨by decide +kernel, rfl⟩
theorem d_code_134 : Dec code 134 (.aload 8) 2 136 := ⟨by decide +kernel, rfl⟩
theorem d_code_136 : Dec code 136 (.iload 5) 2 138 := ⟨by decide +kernel, rfl⟩
theorem d_code_138 : Dec code 138 (.invokestatic 13) 3 141 := ⟨by decide +kernel, rfl⟩
theorem d_code_141 : Dec code 141 (.astore 11) 2 143 := ⟨by decide +kernel, rfl⟩
theorem d_code_143 : Dec code 143 (.iload 5) 2 145 := ⟨by decide +kernel, rfl⟩
theorem d_code_145 : Dec code 145 (.iload 6) 2 147 := ⟨by decide +kernel, rfl⟩
theorem d_code_147 : Dec code 147 (.if_icmp .gt 57) 3 150 := ⟨by decide +kernel, rfl⟩
theorem d_code_205 : Dec code 205 (.istore 12) 2 207 := ⟨by decide +kernel, rfl⟩
theorem d_code_207 : Dec code 207 (.iload 12) 2 209 := ⟨by decide +kernel, rfl⟩
theorem d_code_209 : Dec code 209 (.ifCond .eq 41) 3 212 := ⟨by decide +kernel, rfl⟩
theorem d_code_251 : Dec code 251 (.istore 13) 2 253 := ⟨by decide +kernel, rfl⟩
theorem d_code_253 : Dec code 253 (.aload 10) 2 255 := ⟨by decide +kernel, rfl⟩
theorem d_code_255 : Dec code 255 (.aload 11) 2 257 := ⟨by decide +kernel, rfl⟩
theorem d_code_257 : Dec code 257 (.invokestatic 17) 3 260 := ⟨by decide +kernel, rfl⟩
theorem pd_14 : parseMethodDescriptor "(Ljava/lang/String;Ljava/lang/String;)Z" = some ⟨[(.object "java/lang/String"), (.object "java/lang/String")], some .boolean⟩ := by decide +kernel
theorem d_code_260 : Dec code 260 (.iload 13) 2 262 := ⟨by decide +kernel, rfl⟩
theorem d_code_262 : Dec code 262 (.if_icmp .ne 7) 3 265 := ⟨by decide +kernel, rfl⟩
theorem d_code_265 : Dec code 265 (.iconst 1) 1 266 := ⟨by decide +kernel, rfl⟩
theorem d_code_266 : Dec code 266 (.goto 4) 3 269 := ⟨by decide +kernel, rfl⟩
theorem d_code_270 : Dec code 270 (.ireturn) 1 271 := ⟨by decide +kernel, rfl⟩
theorem d_code_250 : Dec code 250 (.iconst 0) 1 251 := ⟨by decide +kernel, rfl⟩
theorem d_code_212 : Dec code 212 (.iload 6) 2 214 := ⟨by decide +kernel, rfl⟩
theorem d_code_214 : Dec code 214 (.iload 5) 2 216 := ⟨by decide +kernel, rfl⟩
theorem d_code_216 : Dec code 216 (.if_icmp .eq 30) 3 219 := ⟨by decide +kernel, rfl⟩
theorem d_code_246 : Dec code 246 (.iconst 1) 1 247 := ⟨by decide +kernel, rfl⟩
theorem d_code_247 : Dec code 247 (.goto 4) 3 250 := ⟨by decide +kernel, rfl⟩
theorem d_code_219 : Dec code 219 (.iload 5) 2 221 := ⟨by decide +kernel, rfl⟩
theorem d_code_221 : Dec code 221 (.ifCond .le 15) 3 224 := ⟨by decide +kernel, rfl⟩
theorem d_code_236 : Dec code 236 (.aload 9) 2 238 := ⟨by decide +kernel, rfl⟩
theorem d_code_238 : Dec code 238 (.iload 5) 2 240 := ⟨by decide +kernel, rfl⟩
theorem d_code_240 : Dec code 240 (.caload) 1 241 := ⟨by decide +kernel, rfl⟩
theorem d_code_241 : Dec code 241 (.bipush 47) 2 243 := ⟨by decide +kernel, rfl⟩
theorem d_code_243 : Dec code 243 (.if_icmp .ne 7) 3 246 := ⟨by decide +kernel, rfl⟩
theorem d_code_224 : Dec code 224 (.aload 8) 2 226 := ⟨by decide +kernel, rfl⟩
theorem d_code_226 : Dec code 226 (.iload 5) 2 228 := ⟨by decide +kernel, rfl⟩
theorem d_code_228 : Dec code 228 (.iconst 1) 1 229 := ⟨by decide +kernel, rfl⟩
theorem d_code_229 : Dec code 229 (.isub) 1 230 := ⟨by decide +kernel, rfl⟩
theorem d_code_230 : Dec code 230 (.caload) 1 231 := ⟨by decide +kernel, rfl⟩
theorem d_code_231 : Dec code 231 (.bipush 47) 2 233 := ⟨by decide +kernel, rfl⟩
theorem d_code_233 : Dec code 233 (.if_icmp .eq 13) 3 236 := ⟨by decide +kernel, rfl⟩
theorem d_code_204 : Dec code 204 (.iconst 0) 1 205 := ⟨by decide +kernel, rfl⟩
theorem d_code_150 : Dec code 150 (.iload 5) 2 152 := ⟨by decide +kernel, rfl⟩
theorem d_code_152 : Dec code 152 (.ifCond .le 14) 3 155 := ⟨by decide +kernel, rfl⟩
theorem d_code_166 : Dec code 166 (.iload 5) 2 168 := ⟨by decide +kernel, rfl⟩
theorem d_code_168 : Dec code 168 (.iconst 1) 1 169 := ⟨by decide +kernel, rfl⟩
theorem d_code_169 : Dec code 169 (.if_icmp .le 14) 3 172 := ⟨by decide +kernel, rfl⟩
theorem d_code_183 : Dec code 183 (.iload 5) 2 185 := ⟨by decide +kernel, rfl⟩
theorem d_code_185 : Dec code 185 (.iconst 2) 1 186 := ⟨by decide +kernel, rfl⟩
theorem d_code_186 : Dec code 186 (.if_icmp .le 14) 3 189 := ⟨by decide +kernel, rfl⟩
theorem d_code_200 : Dec code 200 (.iconst 1) 1 201 := ⟨by decide +kernel, rfl⟩
theorem d_code_201 : Dec code 201 (.goto 4) 3 204 := ⟨by decide +kernel, rfl⟩
theorem d_code_155 : Dec code 155 (.aload 9) 2 157 := ⟨by decide +kernel, rfl⟩
theorem d_code_157 : Dec code 157 (.iconst 0) 1 158 := ⟨by decide +kernel, rfl⟩
theorem d_code_158 : Dec code 158 (.caload) 1 159 := ⟨by decide +kernel, rfl⟩
theorem d_code_159 : Dec code 159 (.aload 8) 2 161 := ⟨by decide +kernel, rfl⟩
theorem d_code_161 : Dec code 161 (.iconst 0) 1 162 := ⟨by decide +kernel, rfl⟩
theorem d_code_162 : Dec code 162 (.caload) 1 163 := ⟨by decide +kernel, rfl⟩
theorem d_code_163 : Dec code 163 (.if_icmp .ne 41) 3 166 := ⟨by decide +kernel, rfl⟩
theorem d_code_172 : Dec code 172 (.aload 9) 2 174 := ⟨by decide +kernel, rfl⟩
theorem d_code_174 : Dec code 174 (.iconst 1) 1 175 := ⟨by decide +kernel, rfl⟩
theorem d_code_175 : Dec code 175 (.caload) 1 176 := ⟨by decide +kernel, rfl⟩
theorem d_code_176 : Dec code 176 (.aload 8) 2 178 := ⟨by decide +kernel, rfl⟩
theorem d_code_178 : Dec code 178 (.iconst 1) 1 179 := ⟨by decide +kernel, rfl⟩
theorem d_code_179 : Dec code 179 (.caload) 1 180 := ⟨by decide +kernel, rfl⟩
theorem d_code_180 : Dec code 180 (.if_icmp .ne 24) 3 183 := ⟨by decide +kernel, rfl⟩
theorem d_code_189 : Dec code 189 (.aload 9) 2 191 := ⟨by decide +kernel, rfl⟩
theorem d_code_191 : Dec code 191 (.iconst 2) 1 192 := ⟨by decide +kernel, rfl⟩
theorem d_code_192 : Dec code 192 (.caload) 1 193 := ⟨by decide +kernel, rfl⟩
theorem d_code_193 : Dec code 193 (.aload 8) 2 195 := ⟨by decide +kernel, rfl⟩
theorem d_code_195 : Dec code 195 (.iconst 2) 1 196 := ⟨by decide +kernel, rfl⟩
theorem d_code_196 : Dec code 196 (.caload) 1 197 := ⟨by decide +kernel, rfl⟩
theorem d_code_197 : Dec code 197 (.if_icmp .ne 7) 3 200 := ⟨by decide +kernel, rfl⟩
theorem d_code_101 : Dec code 101 (.aload 9) 2 103 := ⟨by decide +kernel, rfl⟩
theorem d_code_103 : Dec code 103 (.iconst 0) 1 104 := ⟨by decide +kernel, rfl⟩
theorem d_code_104 : Dec code 104 (.aload 8) 2 106 := ⟨by decide +kernel, rfl⟩
theorem d_code_106 : Dec code 106 (.iconst 0) 1 107 := ⟨by decide +kernel, rfl⟩
theorem d_code_107 : Dec code 107 (.caload) 1 108 := ⟨by decide +kernel, rfl⟩
theorem d_code_108 : Dec code 108 (.castore) 1 109 := ⟨by decide +kernel, rfl⟩
theorem d_code_109 : Dec code 109 (.aload 9) 2 111 := ⟨by decide +kernel, rfl⟩
theorem d_code_111 : Dec code 111 (.iconst 1) 1 112 := ⟨by decide +kernel, rfl⟩
theorem d_code_112 : Dec code 112 (.aload 8) 2 114 := ⟨by decide +kernel, rfl⟩
theorem d_code_114 : Dec code 114 (.iconst 1) 1 115 := ⟨by decide +kernel, rfl⟩
theorem d_code_115 : Dec code 115 (.caload) 1 116 := ⟨by decide +kernel, rfl⟩
theorem d_code_116 : Dec code 116 (.castore) 1 117 := ⟨by decide +kernel, rfl⟩
theorem d_code_117 : Dec code 117 (.aload 9) 2 119 := ⟨by decide +kernel, rfl⟩
theorem d_code_119 : Dec code 119 (.iconst 2) 1 120 := ⟨by decide +kernel, rfl⟩
theorem d_code_120 : Dec code 120 (.aload 8) 2 122 := ⟨by decide +kernel, rfl⟩
theorem d_code_122 : Dec code 122 (.iconst 2) 1 123 := ⟨by decide +kernel, rfl⟩
theorem d_code_123 : Dec code 123 (.caload) 1 124 := ⟨by decide +kernel, rfl⟩
theorem d_code_124 : Dec code 124 (.castore) 1 125 := ⟨by decide +kernel, rfl⟩
theorem d_code_20 : Dec code 20 (.ifCond .eq 7) 3 23 := ⟨by decide +kernel, rfl⟩
theorem d_code_27 : Dec code 27 (.iconst 0) 1 28 := ⟨by decide +kernel, rfl⟩
theorem d_code_23 : Dec code 23 (.iconst 1) 1 24 := ⟨by decide +kernel, rfl⟩
theorem d_code_24 : Dec code 24 (.goto 4) 3 27 := ⟨by decide +kernel, rfl⟩
set_option maxRecDepth 65536 in
set_option maxHeartbeats 40000000 in
theorem c_law (l : Launch) (Z : State) (a0 : Array Value) (hw : ∀ d ∈ tables_1, d.before a0 Z = true) (hE : EW Z a0 EL0) {n0 : Nat} {h0 : Heap} (hO : Old Z n0 h0) (hG : Gl Z) (i0 : Int32) (i1 i2 : Int64) :
    Ctr NW EL0 n0 Z [] l x code maxLocals ret room_1 #[.int i0, .long i1, .long i2] h0 (RV fun w h => w = .int 1) := by
  refine Ctr.body (plainFor_of_name pn_2) hE hO (fun x q => nomatch q) (L0 := #[.val (.int i0), .val (.long i1), .second, .val (.long i2), .second, .unset, .unset, .unset, .unset, .unset, .unset, .unset, .unset, .unset]) (fun m => by first | (simp [entryFrame, mkF, argsToLocals, Value.category, maxLocals]; done) | rfl) ?_
  intro p e s m below meth c T0 W0
  refine Go.iload_n W0.cx d_code_0 (v := i0) rfl ?_
  refine Go.iconst W0.cx d_code_1 (z := (3 : Int32)) rfl ?_
  refine Go.iand W0.cx d_code_2 ?_
  obtain ⟨bl, hbl, ebl⟩ := and_nat i0 (3 : Int32) (k := 3) rfl (by decide)
  refine Go.top ebl ?_
  refine Go.istore W0.cx d_code_3 (L' := #[.val (.int i0), .val (.long i1), .second, .val (.long i2), .second, .val (.int (Int32.ofNat bl)), .unset, .unset, .unset, .unset, .unset, .unset, .unset, .unset]) rfl ?_
  refine Go.iload_n W0.cx d_code_5 (v := i0) rfl ?_
  refine Go.iconst W0.cx d_code_6 (z := (2 : Int32)) rfl ?_
  refine Go.iushr W0.cx d_code_7 ?_
  refine Go.bipush W0.cx d_code_8 (z := (7 : Int32)) rfl ?_
  refine Go.iand W0.cx d_code_10 ?_
  refine Go.iconst W0.cx d_code_11 (z := (5 : Int32)) rfl ?_
  refine Go.irem W0.cx d_code_12 (by decide) ?_
  obtain ⟨pl, hpl, epl⟩ := mask75 (ush i0 (2 : Int32))
  refine Go.top epl ?_
  refine Go.istore W0.cx d_code_13 (L' := #[.val (.int i0), .val (.long i1), .second, .val (.long i2), .second, .val (.int (Int32.ofNat bl)), .val (.int (Int32.ofNat pl)), .unset, .unset, .unset, .unset, .unset, .unset, .unset]) rfl ?_
  refine Go.iload_n W0.cx d_code_15 (v := i0) rfl ?_
  refine Go.iconst W0.cx d_code_16 (z := (5 : Int32)) rfl ?_
  refine Go.iushr W0.cx d_code_17 ?_
  refine Go.iconst W0.cx d_code_18 (z := (1 : Int32)) rfl ?_
  refine Go.iand W0.cx d_code_19 ?_
  have J28 : ∀ cz : Int32, Go p e below (Endp NW EL0 n0 Z below s room_1.cells room_1.slots (RV fun w h => w = .int 1)) T0 (mkF m 28 #[.val (.int i0), .val (.long i1), .second, .val (.long i2), .second, .val (.int (Int32.ofNat bl)), .val (.int (Int32.ofNat pl)), .unset, .unset, .unset, .unset, .unset, .unset, .unset] [(.int cz)]) := by
    intro cz
    refine Go.istore W0.cx d_code_28 (L' := #[.val (.int i0), .val (.long i1), .second, .val (.long i2), .second, .val (.int (Int32.ofNat bl)), .val (.int (Int32.ofNat pl)), .val (.int cz), .unset, .unset, .unset, .unset, .unset, .unset]) rfl ?_
    refine Go.iconst W0.cx d_code_30 (z := (3 : Int32)) rfl ?_
    refine Go.newarr W0 d_code_31 (wd hw 0 rfl) (z := (3 : Int32)) (cap := 3) (by decide) (by decide) (by decide) (cells' := 1) (slots' := 3) rfl rfl (by decide) (by decide) ?_
    intro T1 h1 a1 ka1 g1 W1 E1 A1
    have V1 : CArr Z h1 a1 ka1 [0, 0, 0] := CArr.of_new A1 (k := 3) rfl rfl
    refine Go.dup W1.cx d_code_33 rfl ?_
    refine Go.iconst W1.cx d_code_34 (z := (0 : Int32)) rfl ?_
    refine Go.lload_n W1.cx d_code_35 (v := i2) rfl ?_
    refine Go.iconst W1.cx d_code_36 (z := (0 : Int32)) rfl ?_
    refine Go.invs1 W1 (Ctr.call (wt := 3) (c_pick l Z a0 hw hE W1.old i2 (0 : Int32)) W1.ew (wd hw 4 rfl) (wd hw 3 rfl) (by simp) (by decide) (by decide)) d_code_37 (wd hw 1 rfl) (wd hw 2 rfl) (wd hw 3 rfl) (wd hw 4 rfl) (by decide) pd_12 rfl rfl (rest := [(.int (0 : Int32)), (.ref a1), (.ref a1)]) rfl (Nat.le_of_eq rfl) (cells' := 1) (slots' := 3) rfl rfl (by decide) (by decide) ?_
    rintro T2 h2 _ W2 z2 ⟨y2, rfl, rg2, e2⟩
    subst e2
    refine Go.castore W2 0 d_code_40 V1 (by simp) rfl (Nat.le_of_ble_eq_true rfl) (Nat.le_of_ble_eq_true rfl) (x' := y2) (nar_ch rg2) ?_
    intro T3 h3 W3 K3 V3
    have V3 : CArr Z h3 a1 ka1 [y2, 0, 0] := V3
    refine Go.dup W3.cx d_code_41 rfl ?_
    refine Go.iconst W3.cx d_code_42 (z := (1 : Int32)) rfl ?_
    refine Go.lload_n W3.cx d_code_43 (v := i2) rfl ?_
    refine Go.iconst W3.cx d_code_44 (z := (1 : Int32)) rfl ?_
    refine Go.invs1 W3 (Ctr.call (wt := 3) (c_pick l Z a0 hw hE W3.old i2 (1 : Int32)) W3.ew (wd hw 4 rfl) (wd hw 3 rfl) (by simp) (by decide) (by decide)) d_code_45 (wd hw 1 rfl) (wd hw 2 rfl) (wd hw 3 rfl) (wd hw 4 rfl) (by decide) pd_12 rfl rfl (rest := [(.int (1 : Int32)), (.ref a1), (.ref a1)]) rfl (Nat.le_of_eq rfl) (cells' := 1) (slots' := 3) rfl rfl (by decide) (by decide) ?_
    rintro T4 h4 _ W4 z4 ⟨y4, rfl, rg4, e4⟩
    subst e4
    refine Go.castore W4 1 d_code_48 V3 (by simp) rfl (Nat.le_of_ble_eq_true rfl) (Nat.le_of_ble_eq_true rfl) (x' := y4) (nar_ch rg4) ?_
    intro T5 h5 W5 K5 V5
    have V5 : CArr Z h5 a1 ka1 [y2, y4, 0] := V5
    refine Go.dup W5.cx d_code_49 rfl ?_
    refine Go.iconst W5.cx d_code_50 (z := (2 : Int32)) rfl ?_
    refine Go.lload_n W5.cx d_code_51 (v := i2) rfl ?_
    refine Go.iconst W5.cx d_code_52 (z := (2 : Int32)) rfl ?_
    refine Go.invs1 W5 (Ctr.call (wt := 3) (c_pick l Z a0 hw hE W5.old i2 (2 : Int32)) W5.ew (wd hw 4 rfl) (wd hw 3 rfl) (by simp) (by decide) (by decide)) d_code_53 (wd hw 1 rfl) (wd hw 2 rfl) (wd hw 3 rfl) (wd hw 4 rfl) (by decide) pd_12 rfl rfl (rest := [(.int (2 : Int32)), (.ref a1), (.ref a1)]) rfl (Nat.le_of_eq rfl) (cells' := 1) (slots' := 3) rfl rfl (by decide) (by decide) ?_
    rintro T6 h6 _ W6 z6 ⟨y6, rfl, rg6, e6⟩
    subst e6
    refine Go.castore W6 2 d_code_56 V5 (by simp) rfl (Nat.le_of_ble_eq_true rfl) (Nat.le_of_ble_eq_true rfl) (x' := y6) (nar_ch rg6) ?_
    intro T7 h7 W7 K7 V7
    have V7 : CArr Z h7 a1 ka1 [y2, y4, y6] := V7
    refine Go.astore W7.cx d_code_57 (L' := #[.val (.int i0), .val (.long i1), .second, .val (.long i2), .second, .val (.int (Int32.ofNat bl)), .val (.int (Int32.ofNat pl)), .val (.int cz), .val (.ref a1), .unset, .unset, .unset, .unset, .unset]) rfl rfl ?_
    refine Go.iconst W7.cx d_code_59 (z := (4 : Int32)) rfl ?_
    obtain ⟨B, VB, hBl, hBc⟩ : ∃ B : List Int32, CArr Z h7 a1 ka1 B ∧ B.length = 3 ∧ ∀ c ∈ B, ¬ c < 0 ∧ ¬ (255 : Int32) < c := ⟨_, V7, rfl, all_cons rg2 (all_cons rg4 (all_cons rg6 (all_nil)))⟩
    refine Go.newarr W7 d_code_60 (wd hw 0 rfl) (z := (4 : Int32)) (cap := 4) (by decide) (by decide) (by decide) (cells' := 2) (slots' := 7) rfl rfl (by decide) (by decide) ?_
    intro T8 h8 a8 ka8 g8 W8 E8 A8
    have V8 : CArr Z h8 a8 ka8 [0, 0, 0, 0] := CArr.of_new A8 (k := 4) rfl rfl
    have O8 := VB.ext E8
    refine Go.dup W8.cx d_code_62 rfl ?_
    refine Go.iconst W8.cx d_code_63 (z := (0 : Int32)) rfl ?_
    refine Go.lload_n W8.cx d_code_64 (v := i1) rfl ?_
    refine Go.iconst W8.cx d_code_65 (z := (0 : Int32)) rfl ?_
    refine Go.invs1 W8 (Ctr.call (wt := 3) (c_pick l Z a0 hw hE W8.old i1 (0 : Int32)) W8.ew (wd hw 4 rfl) (wd hw 3 rfl) (by simp) (by decide) (by decide)) d_code_66 (wd hw 1 rfl) (wd hw 2 rfl) (wd hw 3 rfl) (wd hw 4 rfl) (by decide) pd_12 rfl rfl (rest := [(.int (0 : Int32)), (.ref a8), (.ref a8)]) rfl (Nat.le_of_eq rfl) (cells' := 2) (slots' := 7) rfl rfl (by decide) (by decide) ?_
    rintro T9 h9 _ W9 z9 ⟨y9, rfl, rg9, e9⟩
    subst e9
    refine Go.castore W9 0 d_code_69 V8 (by simp) rfl (Nat.le_of_ble_eq_true rfl) (Nat.le_of_ble_eq_true rfl) (x' := y9) (nar_ch rg9) ?_
    intro T10 h10 W10 K10 V10
    have V10 : CArr Z h10 a8 ka8 [y9, 0, 0, 0] := V10
    have O10 := O8.keep K10 (nin1 VB.lt g8)
    refine Go.dup W10.cx d_code_70 rfl ?_
    refine Go.iconst W10.cx d_code_71 (z := (1 : Int32)) rfl ?_
    refine Go.lload_n W10.cx d_code_72 (v := i1) rfl ?_
    refine Go.iconst W10.cx d_code_73 (z := (1 : Int32)) rfl ?_
    refine Go.invs1 W10 (Ctr.call (wt := 3) (c_pick l Z a0 hw hE W10.old i1 (1 : Int32)) W10.ew (wd hw 4 rfl) (wd hw 3 rfl) (by simp) (by decide) (by decide)) d_code_74 (wd hw 1 rfl) (wd hw 2 rfl) (wd hw 3 rfl) (wd hw 4 rfl) (by decide) pd_12 rfl rfl (rest := [(.int (1 : Int32)), (.ref a8), (.ref a8)]) rfl (Nat.le_of_eq rfl) (cells' := 2) (slots' := 7) rfl rfl (by decide) (by decide) ?_
    rintro T11 h11 _ W11 z11 ⟨y11, rfl, rg11, e11⟩
    subst e11
    refine Go.castore W11 1 d_code_77 V10 (by simp) rfl (Nat.le_of_ble_eq_true rfl) (Nat.le_of_ble_eq_true rfl) (x' := y11) (nar_ch rg11) ?_
    intro T12 h12 W12 K12 V12
    have V12 : CArr Z h12 a8 ka8 [y9, y11, 0, 0] := V12
    have O12 := O10.keep K12 (nin1 VB.lt g8)
    refine Go.dup W12.cx d_code_78 rfl ?_
    refine Go.iconst W12.cx d_code_79 (z := (2 : Int32)) rfl ?_
    refine Go.lload_n W12.cx d_code_80 (v := i1) rfl ?_
    refine Go.iconst W12.cx d_code_81 (z := (2 : Int32)) rfl ?_
    refine Go.invs1 W12 (Ctr.call (wt := 3) (c_pick l Z a0 hw hE W12.old i1 (2 : Int32)) W12.ew (wd hw 4 rfl) (wd hw 3 rfl) (by simp) (by decide) (by decide)) d_code_82 (wd hw 1 rfl) (wd hw 2 rfl) (wd hw 3 rfl) (wd hw 4 rfl) (by decide) pd_12 rfl rfl (rest := [(.int (2 : Int32)), (.ref a8), (.ref a8)]) rfl (Nat.le_of_eq rfl) (cells' := 2) (slots' := 7) rfl rfl (by decide) (by decide) ?_
    rintro T13 h13 _ W13 z13 ⟨y13, rfl, rg13, e13⟩
    subst e13
    refine Go.castore W13 2 d_code_85 V12 (by simp) rfl (Nat.le_of_ble_eq_true rfl) (Nat.le_of_ble_eq_true rfl) (x' := y13) (nar_ch rg13) ?_
    intro T14 h14 W14 K14 V14
    have V14 : CArr Z h14 a8 ka8 [y9, y11, y13, 0] := V14
    have O14 := O12.keep K14 (nin1 VB.lt g8)
    refine Go.dup W14.cx d_code_86 rfl ?_
    refine Go.iconst W14.cx d_code_87 (z := (3 : Int32)) rfl ?_
    refine Go.lload_n W14.cx d_code_88 (v := i1) rfl ?_
    refine Go.iconst W14.cx d_code_89 (z := (3 : Int32)) rfl ?_
    refine Go.invs1 W14 (Ctr.call (wt := 3) (c_pick l Z a0 hw hE W14.old i1 (3 : Int32)) W14.ew (wd hw 4 rfl) (wd hw 3 rfl) (by simp) (by decide) (by decide)) d_code_90 (wd hw 1 rfl) (wd hw 2 rfl) (wd hw 3 rfl) (wd hw 4 rfl) (by decide) pd_12 rfl rfl (rest := [(.int (3 : Int32)), (.ref a8), (.ref a8)]) rfl (Nat.le_of_eq rfl) (cells' := 2) (slots' := 7) rfl rfl (by decide) (by decide) ?_
    rintro T15 h15 _ W15 z15 ⟨y15, rfl, rg15, e15⟩
    subst e15
    refine Go.castore W15 3 d_code_93 V14 (by simp) rfl (Nat.le_of_ble_eq_true rfl) (Nat.le_of_ble_eq_true rfl) (x' := y15) (nar_ch rg15) ?_
    intro T16 h16 W16 K16 V16
    have V16 : CArr Z h16 a8 ka8 [y9, y11, y13, y15] := V16
    have O16 := O14.keep K16 (nin1 VB.lt g8)
    refine Go.astore W16.cx d_code_94 (L' := #[.val (.int i0), .val (.long i1), .second, .val (.long i2), .second, .val (.int (Int32.ofNat bl)), .val (.int (Int32.ofNat pl)), .val (.int cz), .val (.ref a1), .val (.ref a8), .unset, .unset, .unset, .unset]) rfl rfl ?_
    refine Go.iload W16.cx d_code_96 (v := cz) rfl ?_
    have J125 : ∀ (T : State) (h : Heap) (P : List Int32), Wk NW EL0 n0 Z a0 "com/example/actions_to_pages/actionstopages/RequestPathsIsUnderPinLaw" "law" code maxLocals ret p l e room_1 s m #[.int i0, .long i1, .long i2] below meth c T h [a8, a1] 2 7 → CArr Z h a8 ka8 P → CArr Z h a1 ka1 B → P.length = 4 → (∀ c ∈ P, ¬ c < 0 ∧ ¬ (255 : Int32) < c) → Go p e below (Endp NW EL0 n0 Z below s room_1.cells room_1.slots (RV fun w h => w = .int 1)) T (mkF m 125 #[.val (.int i0), .val (.long i1), .second, .val (.long i2), .second, .val (.int (Int32.ofNat bl)), .val (.int (Int32.ofNat pl)), .val (.int cz), .val (.ref a1), .val (.ref a8), .unset, .unset, .unset, .unset] []) := by
      intro T125 h125 P W125 VP VB hPl hPc
      refine Go.aload W125.cx d_code_125 (v := (.ref a8)) rfl rfl ?_
      refine Go.iload W125.cx d_code_127 (v := (Int32.ofNat pl)) rfl ?_
      refine Go.invs1 W125 (Ctr.call (wt := 0) (c_str l Z a0 hw hE W125.old hG VP hPc (by omega) (n := pl) (by omega) (by omega)) W125.ew (wd hw 8 rfl) (wd hw 3 rfl) (by simp) (by decide) (by decide)) d_code_129 (wd hw 6 rfl) (wd hw 7 rfl) (wd hw 3 rfl) (wd hw 8 rfl) (by decide) pd_13 rfl rfl (rest := []) rfl (Nat.le_of_eq rfl) (cells' := 8) (slots' := 19) rfl rfl (by decide) (by decide) ?_
      rintro T17 h17 _ W17 z17 ⟨r17, rfl, E17, S17⟩
      have VP := VP.ext E17
      have VB := VB.ext E17
      refine Go.astore W17.cx d_code_132 (L' := #[.val (.int i0), .val (.long i1), .second, .val (.long i2), .second, .val (.int (Int32.ofNat bl)), .val (.int (Int32.ofNat pl)), .val (.int cz), .val (.ref a1), .val (.ref a8), .val (.ref r17), .unset, .unset, .unset]) rfl rfl ?_
      refine Go.aload W17.cx d_code_134 (v := (.ref a1)) rfl rfl ?_
      refine Go.iload W17.cx d_code_136 (v := (Int32.ofNat bl)) rfl ?_
      refine Go.invs1 W17 (Ctr.call (wt := 0) (c_str l Z a0 hw hE W17.old hG VB hBc (by omega) (n := bl) (by omega) (by omega)) W17.ew (wd hw 8 rfl) (wd hw 3 rfl) (by simp) (by decide) (by decide)) d_code_138 (wd hw 6 rfl) (wd hw 7 rfl) (wd hw 3 rfl) (wd hw 8 rfl) (by decide) pd_13 rfl rfl (rest := []) rfl (Nat.le_of_eq rfl) (cells' := 14) (slots' := 31) rfl rfl (by decide) (by decide) ?_
      rintro T18 h18 _ W18 z18 ⟨r18, rfl, E18, S18⟩
      have VP := VP.ext E18
      have VB := VB.ext E18
      have S17 := S17.ext E18
      refine Go.astore W18.cx d_code_141 (L' := #[.val (.int i0), .val (.long i1), .second, .val (.long i2), .second, .val (.int (Int32.ofNat bl)), .val (.int (Int32.ofNat pl)), .val (.int cz), .val (.ref a1), .val (.ref a8), .val (.ref r17), .val (.ref r18), .unset, .unset]) rfl rfl ?_
      refine Go.iload W18.cx d_code_143 (v := (Int32.ofNat bl)) rfl ?_
      refine Go.iload W18.cx d_code_145 (v := (Int32.ofNat pl)) rfl ?_
      have J205 : ∀ pz : Int32, Bo (Pfx P B pl bl) pz → Go p e below (Endp NW EL0 n0 Z below s room_1.cells room_1.slots (RV fun w h => w = .int 1)) T18 (mkF m 205 #[.val (.int i0), .val (.long i1), .second, .val (.long i2), .second, .val (.int (Int32.ofNat bl)), .val (.int (Int32.ofNat pl)), .val (.int cz), .val (.ref a1), .val (.ref a8), .val (.ref r17), .val (.ref r18), .unset, .unset] [(.int pz)]) := by
        intro pz hpz
        refine Go.istore W18.cx d_code_205 (L' := #[.val (.int i0), .val (.long i1), .second, .val (.long i2), .second, .val (.int (Int32.ofNat bl)), .val (.int (Int32.ofNat pl)), .val (.int cz), .val (.ref a1), .val (.ref a8), .val (.ref r17), .val (.ref r18), .val (.int pz), .unset]) rfl ?_
        refine Go.iload W18.cx d_code_207 (v := pz) rfl ?_
        have J251 : ∀ ez : Int32, Bo (Expd P B pl bl) ez → Go p e below (Endp NW EL0 n0 Z below s room_1.cells room_1.slots (RV fun w h => w = .int 1)) T18 (mkF m 251 #[.val (.int i0), .val (.long i1), .second, .val (.long i2), .second, .val (.int (Int32.ofNat bl)), .val (.int (Int32.ofNat pl)), .val (.int cz), .val (.ref a1), .val (.ref a8), .val (.ref r17), .val (.ref r18), .val (.int pz), .unset] [(.int ez)]) := by
          intro ez hez
          refine Go.istore W18.cx d_code_251 (L' := #[.val (.int i0), .val (.long i1), .second, .val (.long i2), .second, .val (.int (Int32.ofNat bl)), .val (.int (Int32.ofNat pl)), .val (.int cz), .val (.ref a1), .val (.ref a8), .val (.ref r17), .val (.ref r18), .val (.int pz), .val (.int ez)]) rfl ?_
          refine Go.aload W18.cx d_code_253 (v := (.ref r17)) rfl rfl ?_
          refine Go.aload W18.cx d_code_255 (v := (.ref r18)) rfl rfl ?_
          refine Go.invs1 W18 (Ctr.call (wt := 0) (c_under l Z a0 hw hE W18.old hG S17 S18 (by rw [List.length_take]; omega)) W18.ew (wd hw 33 rfl) (wd hw 32 rfl) (by simp) (by decide) (by decide)) d_code_257 (wd hw 30 rfl) (wd hw 31 rfl) (wd hw 32 rfl) (wd hw 33 rfl) (by decide) pd_14 rfl rfl (rest := []) rfl (Nat.le_of_eq rfl) (cells' := 16) (slots' := 39) rfl rfl (by decide) (by decide) ?_
          rintro T19 h19 _ W19 z19 ⟨y19, rfl, B19⟩
          refine Go.iload W19.cx d_code_260 (v := ez) rfl ?_
          refine Go.icne W19.cx d_code_262 (by decide) (q := 269) rfl (fun hh => (by first | exact absurd ((B19.iff (under_iff hPl hBl (by omega) hbl)).same hez) hh | exact absurd hh ((B19.iff (under_iff hPl hBl (by omega) hbl)).same hez))) (fun _ => ?_)
          refine Go.iconst W19.cx d_code_265 (z := (1 : Int32)) rfl ?_
          refine Go.goto W19.cx d_code_266 (by decide) (q := 270) rfl ?_
          exact Go.iret W19 d_code_270 (by simp) rfl (by decide) (by decide) ⟨_, rfl, rfl⟩
        refine Go.ifeq W18.cx d_code_209 (by decide) (q := 250) rfl (fun p0 => ?_) (fun p0 => ?_)
        · refine Go.iconst W18.cx d_code_250 (z := (0 : Int32)) rfl ?_
          exact J251 _ (Bo.ff (fun z => hpz.no p0 z.1))
        · have hpf := hpz.yes p0
          have hle := hpf.1
          have hq := eq_nat (a := pl) (b := bl) (by omega) (by omega)
          refine Go.iload W18.cx d_code_212 (v := (Int32.ofNat pl)) rfl ?_
          refine Go.iload W18.cx d_code_214 (v := (Int32.ofNat bl)) rfl ?_
          refine Go.iceq W18.cx d_code_216 (by decide) (q := 246) rfl (fun p1 => ?_) (fun p1 => ?_)
          · refine Go.iconst W18.cx d_code_246 (z := (1 : Int32)) rfl ?_
            refine Go.goto W18.cx d_code_247 (by decide) (q := 251) rfl ?_
            exact J251 _ (Bo.tt ⟨hpf, Or.inl (hq.mp p1)⟩)
          · have hne : ¬ pl = bl := fun z => p1 (hq.mpr z)
            refine Go.iload W18.cx d_code_219 (v := (Int32.ofNat bl)) rfl ?_
            have J236 : ¬ (0 < bl ∧ B.getD (bl - 1) 0 = 47) → Go p e below (Endp NW EL0 n0 Z below s room_1.cells room_1.slots (RV fun w h => w = .int 1)) T18 (mkF m 236 #[.val (.int i0), .val (.long i1), .second, .val (.long i2), .second, .val (.int (Int32.ofNat bl)), .val (.int (Int32.ofNat pl)), .val (.int cz), .val (.ref a1), .val (.ref a8), .val (.ref r17), .val (.ref r18), .val (.int pz), .unset] []) := by
              intro hno
              refine Go.aload W18.cx d_code_236 (v := (.ref a8)) rfl rfl ?_
              refine Go.iload W18.cx d_code_238 (v := (Int32.ofNat bl)) rfl ?_
              refine Go.caload W18 bl d_code_240 VP rfl (by omega) (by omega) (v := (P.getD bl 0)) rfl ?_
              refine Go.bipush W18.cx d_code_241 (z := (47 : Int32)) rfl ?_
              refine Go.icne W18.cx d_code_243 (by decide) (q := 250) rfl (fun p4 => ?_) (fun p4 => ?_)
              · refine Go.iconst W18.cx d_code_250 (z := (0 : Int32)) rfl ?_
                exact J251 _ (Bo.ff (fun z => z.2.elim hne (fun q => q.elim hno p4)))
              · refine Go.iconst W18.cx d_code_246 (z := (1 : Int32)) rfl ?_
                refine Go.goto W18.cx d_code_247 (by decide) (q := 251) rfl ?_
                exact J251 _ (Bo.tt ⟨hpf, Or.inr (Or.inr p4)⟩)
            refine Go.ifle W18.cx d_code_221 (by decide) (q := 236) rfl (fun p2 => ?_) (fun p2 => ?_)
            · exact J236 (fun z => p2 ((lt_nat (a := 0) (by omega) (by omega)).mpr z.1))
            · have hb0 : 0 < bl := (lt_nat (a := 0) (by omega) (by omega)).mp p2
              refine Go.aload W18.cx d_code_224 (v := (.ref a1)) rfl rfl ?_
              refine Go.iload W18.cx d_code_226 (v := (Int32.ofNat bl)) rfl ?_
              refine Go.iconst W18.cx d_code_228 (z := (1 : Int32)) rfl ?_
              refine Go.isub W18.cx d_code_229 ?_
              refine Go.caload W18 (bl - 1) d_code_230 VB (sub1_nat hb0 (by omega)) (by omega) (by omega) (v := (B.getD (bl - 1) 0)) rfl ?_
              refine Go.bipush W18.cx d_code_231 (z := (47 : Int32)) rfl ?_
              refine Go.iceq W18.cx d_code_233 (by decide) (q := 246) rfl (fun p3 => ?_) (fun p3 => ?_)
              · refine Go.iconst W18.cx d_code_246 (z := (1 : Int32)) rfl ?_
                refine Go.goto W18.cx d_code_247 (by decide) (q := 251) rfl ?_
                exact J251 _ (Bo.tt ⟨hpf, Or.inr (Or.inl ⟨hb0, p3⟩)⟩)
              · exact J236 (fun z => p3 z.2)
      rcases (show bl = 0 ∨ bl = 1 ∨ bl = 2 ∨ bl = 3 by omega) with rfl | rfl | rfl | rfl
      · refine Go.icgt W18.cx d_code_147 (by decide) (q := 204) rfl (fun q0 => ?_) (fun q0 => ?_)
        · refine Go.iconst W18.cx d_code_204 (z := (0 : Int32)) rfl ?_
          exact J205 _ (Bo.ff (fun z => absurd ((lt_nat (a := pl) (b := 0) (by omega) (by omega)).mp q0) (Nat.not_lt.mpr z.1)))
        · refine Go.iload W18.cx d_code_150 (v := (Int32.ofNat 0)) rfl ?_
          refine Go.ifle W18.cx d_code_152 (by decide) (q := 166) rfl (fun _ => ?_) (fun hh => (by first | exact absurd (by decide : ¬ (0 : Int32) < Int32.ofNat 0) hh | exact absurd hh (by decide : ¬ (0 : Int32) < Int32.ofNat 0)))
          refine Go.iload W18.cx d_code_166 (v := (Int32.ofNat 0)) rfl ?_
          refine Go.iconst W18.cx d_code_168 (z := (1 : Int32)) rfl ?_
          refine Go.icle W18.cx d_code_169 (by decide) (q := 183) rfl (fun _ => ?_) (fun hh => (by first | exact absurd (by decide : ¬ (1 : Int32) < Int32.ofNat 0) hh | exact absurd hh (by decide : ¬ (1 : Int32) < Int32.ofNat 0)))
          refine Go.iload W18.cx d_code_183 (v := (Int32.ofNat 0)) rfl ?_
          refine Go.iconst W18.cx d_code_185 (z := (2 : Int32)) rfl ?_
          refine Go.icle W18.cx d_code_186 (by decide) (q := 200) rfl (fun _ => ?_) (fun hh => (by first | exact absurd (by decide : ¬ (2 : Int32) < Int32.ofNat 0) hh | exact absurd hh (by decide : ¬ (2 : Int32) < Int32.ofNat 0)))
          refine Go.iconst W18.cx d_code_200 (z := (1 : Int32)) rfl ?_
          refine Go.goto W18.cx d_code_201 (by decide) (q := 205) rfl ?_
          exact J205 _ (Bo.tt ⟨Nat.not_lt.mp (fun z => q0 ((lt_nat (a := pl) (b := 0) (by omega) (by omega)).mpr z)), fun t ht => absurd ht (Nat.not_lt_zero _)⟩)
      · refine Go.icgt W18.cx d_code_147 (by decide) (q := 204) rfl (fun q0 => ?_) (fun q0 => ?_)
        · refine Go.iconst W18.cx d_code_204 (z := (0 : Int32)) rfl ?_
          exact J205 _ (Bo.ff (fun z => absurd ((lt_nat (a := pl) (b := 1) (by omega) (by omega)).mp q0) (Nat.not_lt.mpr z.1)))
        · refine Go.iload W18.cx d_code_150 (v := (Int32.ofNat 1)) rfl ?_
          refine Go.ifle W18.cx d_code_152 (by decide) (q := 166) rfl (fun hh => (by first | exact absurd (by decide : (0 : Int32) < Int32.ofNat 1) hh | exact absurd hh (by decide : (0 : Int32) < Int32.ofNat 1))) (fun _ => ?_)
          refine Go.aload W18.cx d_code_155 (v := (.ref a8)) rfl rfl ?_
          refine Go.iconst W18.cx d_code_157 (z := (0 : Int32)) rfl ?_
          refine Go.caload W18 0 d_code_158 VP rfl (by omega) (by omega) (v := (P.getD 0 0)) rfl ?_
          refine Go.aload W18.cx d_code_159 (v := (.ref a1)) rfl rfl ?_
          refine Go.iconst W18.cx d_code_161 (z := (0 : Int32)) rfl ?_
          refine Go.caload W18 0 d_code_162 VB rfl (by omega) (by omega) (v := (B.getD 0 0)) rfl ?_
          refine Go.icne W18.cx d_code_163 (by decide) (q := 204) rfl (fun nn0 => ?_) (fun nn0 => ?_)
          · refine Go.iconst W18.cx d_code_204 (z := (0 : Int32)) rfl ?_
            exact J205 _ (Bo.ff (fun z => nn0 (z.2 0 (by omega))))
          · refine Go.iload W18.cx d_code_166 (v := (Int32.ofNat 1)) rfl ?_
            refine Go.iconst W18.cx d_code_168 (z := (1 : Int32)) rfl ?_
            refine Go.icle W18.cx d_code_169 (by decide) (q := 183) rfl (fun _ => ?_) (fun hh => (by first | exact absurd (by decide : ¬ (1 : Int32) < Int32.ofNat 1) hh | exact absurd hh (by decide : ¬ (1 : Int32) < Int32.ofNat 1)))
            refine Go.iload W18.cx d_code_183 (v := (Int32.ofNat 1)) rfl ?_
            refine Go.iconst W18.cx d_code_185 (z := (2 : Int32)) rfl ?_
            refine Go.icle W18.cx d_code_186 (by decide) (q := 200) rfl (fun _ => ?_) (fun hh => (by first | exact absurd (by decide : ¬ (2 : Int32) < Int32.ofNat 1) hh | exact absurd hh (by decide : ¬ (2 : Int32) < Int32.ofNat 1)))
            refine Go.iconst W18.cx d_code_200 (z := (1 : Int32)) rfl ?_
            refine Go.goto W18.cx d_code_201 (by decide) (q := 205) rfl ?_
            exact J205 _ (Bo.tt ⟨Nat.not_lt.mp (fun z => q0 ((lt_nat (a := pl) (b := 1) (by omega) (by omega)).mpr z)), fun t ht => (by rcases (show t = 0 by omega) with rfl <;> assumption)⟩)
      · refine Go.icgt W18.cx d_code_147 (by decide) (q := 204) rfl (fun q0 => ?_) (fun q0 => ?_)
        · refine Go.iconst W18.cx d_code_204 (z := (0 : Int32)) rfl ?_
          exact J205 _ (Bo.ff (fun z => absurd ((lt_nat (a := pl) (b := 2) (by omega) (by omega)).mp q0) (Nat.not_lt.mpr z.1)))
        · refine Go.iload W18.cx d_code_150 (v := (Int32.ofNat 2)) rfl ?_
          refine Go.ifle W18.cx d_code_152 (by decide) (q := 166) rfl (fun hh => (by first | exact absurd (by decide : (0 : Int32) < Int32.ofNat 2) hh | exact absurd hh (by decide : (0 : Int32) < Int32.ofNat 2))) (fun _ => ?_)
          refine Go.aload W18.cx d_code_155 (v := (.ref a8)) rfl rfl ?_
          refine Go.iconst W18.cx d_code_157 (z := (0 : Int32)) rfl ?_
          refine Go.caload W18 0 d_code_158 VP rfl (by omega) (by omega) (v := (P.getD 0 0)) rfl ?_
          refine Go.aload W18.cx d_code_159 (v := (.ref a1)) rfl rfl ?_
          refine Go.iconst W18.cx d_code_161 (z := (0 : Int32)) rfl ?_
          refine Go.caload W18 0 d_code_162 VB rfl (by omega) (by omega) (v := (B.getD 0 0)) rfl ?_
          refine Go.icne W18.cx d_code_163 (by decide) (q := 204) rfl (fun nn0 => ?_) (fun nn0 => ?_)
          · refine Go.iconst W18.cx d_code_204 (z := (0 : Int32)) rfl ?_
            exact J205 _ (Bo.ff (fun z => nn0 (z.2 0 (by omega))))
          · refine Go.iload W18.cx d_code_166 (v := (Int32.ofNat 2)) rfl ?_
            refine Go.iconst W18.cx d_code_168 (z := (1 : Int32)) rfl ?_
            refine Go.icle W18.cx d_code_169 (by decide) (q := 183) rfl (fun hh => (by first | exact absurd (by decide : (1 : Int32) < Int32.ofNat 2) hh | exact absurd hh (by decide : (1 : Int32) < Int32.ofNat 2))) (fun _ => ?_)
            refine Go.aload W18.cx d_code_172 (v := (.ref a8)) rfl rfl ?_
            refine Go.iconst W18.cx d_code_174 (z := (1 : Int32)) rfl ?_
            refine Go.caload W18 1 d_code_175 VP rfl (by omega) (by omega) (v := (P.getD 1 0)) rfl ?_
            refine Go.aload W18.cx d_code_176 (v := (.ref a1)) rfl rfl ?_
            refine Go.iconst W18.cx d_code_178 (z := (1 : Int32)) rfl ?_
            refine Go.caload W18 1 d_code_179 VB rfl (by omega) (by omega) (v := (B.getD 1 0)) rfl ?_
            refine Go.icne W18.cx d_code_180 (by decide) (q := 204) rfl (fun nn1 => ?_) (fun nn1 => ?_)
            · refine Go.iconst W18.cx d_code_204 (z := (0 : Int32)) rfl ?_
              exact J205 _ (Bo.ff (fun z => nn1 (z.2 1 (by omega))))
            · refine Go.iload W18.cx d_code_183 (v := (Int32.ofNat 2)) rfl ?_
              refine Go.iconst W18.cx d_code_185 (z := (2 : Int32)) rfl ?_
              refine Go.icle W18.cx d_code_186 (by decide) (q := 200) rfl (fun _ => ?_) (fun hh => (by first | exact absurd (by decide : ¬ (2 : Int32) < Int32.ofNat 2) hh | exact absurd hh (by decide : ¬ (2 : Int32) < Int32.ofNat 2)))
              refine Go.iconst W18.cx d_code_200 (z := (1 : Int32)) rfl ?_
              refine Go.goto W18.cx d_code_201 (by decide) (q := 205) rfl ?_
              exact J205 _ (Bo.tt ⟨Nat.not_lt.mp (fun z => q0 ((lt_nat (a := pl) (b := 2) (by omega) (by omega)).mpr z)), fun t ht => (by rcases (show t = 0 ∨ t = 1 by omega) with rfl | rfl <;> assumption)⟩)
      · refine Go.icgt W18.cx d_code_147 (by decide) (q := 204) rfl (fun q0 => ?_) (fun q0 => ?_)
        · refine Go.iconst W18.cx d_code_204 (z := (0 : Int32)) rfl ?_
          exact J205 _ (Bo.ff (fun z => absurd ((lt_nat (a := pl) (b := 3) (by omega) (by omega)).mp q0) (Nat.not_lt.mpr z.1)))
        · refine Go.iload W18.cx d_code_150 (v := (Int32.ofNat 3)) rfl ?_
          refine Go.ifle W18.cx d_code_152 (by decide) (q := 166) rfl (fun hh => (by first | exact absurd (by decide : (0 : Int32) < Int32.ofNat 3) hh | exact absurd hh (by decide : (0 : Int32) < Int32.ofNat 3))) (fun _ => ?_)
          refine Go.aload W18.cx d_code_155 (v := (.ref a8)) rfl rfl ?_
          refine Go.iconst W18.cx d_code_157 (z := (0 : Int32)) rfl ?_
          refine Go.caload W18 0 d_code_158 VP rfl (by omega) (by omega) (v := (P.getD 0 0)) rfl ?_
          refine Go.aload W18.cx d_code_159 (v := (.ref a1)) rfl rfl ?_
          refine Go.iconst W18.cx d_code_161 (z := (0 : Int32)) rfl ?_
          refine Go.caload W18 0 d_code_162 VB rfl (by omega) (by omega) (v := (B.getD 0 0)) rfl ?_
          refine Go.icne W18.cx d_code_163 (by decide) (q := 204) rfl (fun nn0 => ?_) (fun nn0 => ?_)
          · refine Go.iconst W18.cx d_code_204 (z := (0 : Int32)) rfl ?_
            exact J205 _ (Bo.ff (fun z => nn0 (z.2 0 (by omega))))
          · refine Go.iload W18.cx d_code_166 (v := (Int32.ofNat 3)) rfl ?_
            refine Go.iconst W18.cx d_code_168 (z := (1 : Int32)) rfl ?_
            refine Go.icle W18.cx d_code_169 (by decide) (q := 183) rfl (fun hh => (by first | exact absurd (by decide : (1 : Int32) < Int32.ofNat 3) hh | exact absurd hh (by decide : (1 : Int32) < Int32.ofNat 3))) (fun _ => ?_)
            refine Go.aload W18.cx d_code_172 (v := (.ref a8)) rfl rfl ?_
            refine Go.iconst W18.cx d_code_174 (z := (1 : Int32)) rfl ?_
            refine Go.caload W18 1 d_code_175 VP rfl (by omega) (by omega) (v := (P.getD 1 0)) rfl ?_
            refine Go.aload W18.cx d_code_176 (v := (.ref a1)) rfl rfl ?_
            refine Go.iconst W18.cx d_code_178 (z := (1 : Int32)) rfl ?_
            refine Go.caload W18 1 d_code_179 VB rfl (by omega) (by omega) (v := (B.getD 1 0)) rfl ?_
            refine Go.icne W18.cx d_code_180 (by decide) (q := 204) rfl (fun nn1 => ?_) (fun nn1 => ?_)
            · refine Go.iconst W18.cx d_code_204 (z := (0 : Int32)) rfl ?_
              exact J205 _ (Bo.ff (fun z => nn1 (z.2 1 (by omega))))
            · refine Go.iload W18.cx d_code_183 (v := (Int32.ofNat 3)) rfl ?_
              refine Go.iconst W18.cx d_code_185 (z := (2 : Int32)) rfl ?_
              refine Go.icle W18.cx d_code_186 (by decide) (q := 200) rfl (fun hh => (by first | exact absurd (by decide : (2 : Int32) < Int32.ofNat 3) hh | exact absurd hh (by decide : (2 : Int32) < Int32.ofNat 3))) (fun _ => ?_)
              refine Go.aload W18.cx d_code_189 (v := (.ref a8)) rfl rfl ?_
              refine Go.iconst W18.cx d_code_191 (z := (2 : Int32)) rfl ?_
              refine Go.caload W18 2 d_code_192 VP rfl (by omega) (by omega) (v := (P.getD 2 0)) rfl ?_
              refine Go.aload W18.cx d_code_193 (v := (.ref a1)) rfl rfl ?_
              refine Go.iconst W18.cx d_code_195 (z := (2 : Int32)) rfl ?_
              refine Go.caload W18 2 d_code_196 VB rfl (by omega) (by omega) (v := (B.getD 2 0)) rfl ?_
              refine Go.icne W18.cx d_code_197 (by decide) (q := 204) rfl (fun nn2 => ?_) (fun nn2 => ?_)
              · refine Go.iconst W18.cx d_code_204 (z := (0 : Int32)) rfl ?_
                exact J205 _ (Bo.ff (fun z => nn2 (z.2 2 (by omega))))
              · refine Go.iconst W18.cx d_code_200 (z := (1 : Int32)) rfl ?_
                refine Go.goto W18.cx d_code_201 (by decide) (q := 205) rfl ?_
                exact J205 _ (Bo.tt ⟨Nat.not_lt.mp (fun z => q0 ((lt_nat (a := pl) (b := 3) (by omega) (by omega)).mpr z)), fun t ht => (by rcases (show t = 0 ∨ t = 1 ∨ t = 2 by omega) with rfl | rfl | rfl <;> assumption)⟩)
    refine Go.ifeq W16.cx d_code_98 (by decide) (q := 125) rfl (fun cp => ?_) (fun cp => ?_)
    · exact J125 _ _ _ W16 V16 O16 rfl (all_cons rg9 (all_cons rg11 (all_cons rg13 (all_cons rg15 (all_nil)))))
    · obtain ⟨P, VP, hPl, hPc⟩ : ∃ P : List Int32, CArr Z h16 a8 ka8 P ∧ P.length = 4 ∧ ∀ c ∈ P, ¬ c < 0 ∧ ¬ (255 : Int32) < c := ⟨_, V16, rfl, all_cons rg9 (all_cons rg11 (all_cons rg13 (all_cons rg15 (all_nil))))⟩
      refine Go.aload W16.cx d_code_101 (v := (.ref a8)) rfl rfl ?_
      refine Go.iconst W16.cx d_code_103 (z := (0 : Int32)) rfl ?_
      refine Go.aload W16.cx d_code_104 (v := (.ref a1)) rfl rfl ?_
      refine Go.iconst W16.cx d_code_106 (z := (0 : Int32)) rfl ?_
      refine Go.caload W16 0 d_code_107 O16 rfl (by omega) (by omega) (v := (B.getD 0 0)) rfl ?_
      refine Go.castore W16 0 d_code_108 VP (by simp) rfl (by omega) (by omega) (x' := (B.getD 0 0)) (nar_ch (getD_ch hBc (i := 0) (by omega))) ?_
      intro T20 h20 W20 K20 V20
      have O20 := O16.keep K20 (nin1 VB.lt g8)
      have hl20 : (P.set 0 (B.getD 0 0)).length = 4 := by rw [List.length_set]; exact hPl
      have hc20 : ∀ c ∈ P.set 0 (B.getD 0 0), ¬ c < 0 ∧ ¬ (255 : Int32) < c := fun c q => (List.mem_or_eq_of_mem_set q).elim (hPc c) (fun u => u ▸ getD_ch hBc (i := 0) (by omega))
      refine Go.aload W20.cx d_code_109 (v := (.ref a8)) rfl rfl ?_
      refine Go.iconst W20.cx d_code_111 (z := (1 : Int32)) rfl ?_
      refine Go.aload W20.cx d_code_112 (v := (.ref a1)) rfl rfl ?_
      refine Go.iconst W20.cx d_code_114 (z := (1 : Int32)) rfl ?_
      refine Go.caload W20 1 d_code_115 O20 rfl (by omega) (by omega) (v := (B.getD 1 0)) rfl ?_
      refine Go.castore W20 1 d_code_116 V20 (by simp) rfl (by omega) (by omega) (x' := (B.getD 1 0)) (nar_ch (getD_ch hBc (i := 1) (by omega))) ?_
      intro T21 h21 W21 K21 V21
      have O21 := O20.keep K21 (nin1 VB.lt g8)
      have hl21 : ((P.set 0 (B.getD 0 0)).set 1 (B.getD 1 0)).length = 4 := by rw [List.length_set]; exact hl20
      have hc21 : ∀ c ∈ (P.set 0 (B.getD 0 0)).set 1 (B.getD 1 0), ¬ c < 0 ∧ ¬ (255 : Int32) < c := fun c q => (List.mem_or_eq_of_mem_set q).elim (hc20 c) (fun u => u ▸ getD_ch hBc (i := 1) (by omega))
      refine Go.aload W21.cx d_code_117 (v := (.ref a8)) rfl rfl ?_
      refine Go.iconst W21.cx d_code_119 (z := (2 : Int32)) rfl ?_
      refine Go.aload W21.cx d_code_120 (v := (.ref a1)) rfl rfl ?_
      refine Go.iconst W21.cx d_code_122 (z := (2 : Int32)) rfl ?_
      refine Go.caload W21 2 d_code_123 O21 rfl (by omega) (by omega) (v := (B.getD 2 0)) rfl ?_
      refine Go.castore W21 2 d_code_124 V21 (by simp) rfl (by omega) (by omega) (x' := (B.getD 2 0)) (nar_ch (getD_ch hBc (i := 2) (by omega))) ?_
      intro T22 h22 W22 K22 V22
      have O22 := O21.keep K22 (nin1 VB.lt g8)
      have hl22 : (((P.set 0 (B.getD 0 0)).set 1 (B.getD 1 0)).set 2 (B.getD 2 0)).length = 4 := by rw [List.length_set]; exact hl21
      have hc22 : ∀ c ∈ ((P.set 0 (B.getD 0 0)).set 1 (B.getD 1 0)).set 2 (B.getD 2 0), ¬ c < 0 ∧ ¬ (255 : Int32) < c := fun c q => (List.mem_or_eq_of_mem_set q).elim (hc21 c) (fun u => u ▸ getD_ch hBc (i := 2) (by omega))
      exact J125 _ _ _ W22 V22 O22 hl22 hc22
  refine Go.ifeq W0.cx d_code_20 (by decide) (q := 27) rfl (fun c0 => ?_) (fun c0 => ?_)
  · refine Go.iconst W0.cx d_code_27 (z := (0 : Int32)) rfl ?_
    exact J28 _
  · refine Go.iconst W0.cx d_code_23 (z := (1 : Int32)) rfl ?_
    refine Go.goto W0.cx d_code_24 (by decide) (q := 28) rfl ?_
    exact J28 _
set_option maxRecDepth 65536 in
set_option maxHeartbeats 40000000 in
theorem comes_1 {Post : Tables → Env → Array Value → State → Outcome → State → Prop} (hpost : ∀ tb e args s v u, (limb_1_1.after args s (.returned v) u = true ∧ limb_1_2.after args s (.returned v) u = true ∧ True) → ReturnedEndW s (.returned v) u (Jvm.fieldLocs frame_1_writes args s ++ Jvm.arrayLocs frame_1_arrays args s ++ Jvm.staticLocs frame_1_statics s) 32 2240 → Post tb e args s (.returned v) u) :
    ArmFor flags0 classFile x code maxLocals ret World_1 tables_1 room_1 Calls_1 rest_1 Pre_1 Post := by
  intro l hfl _ _ p e ha hc hk s m args below hf hA hF happ hP
  obtain ⟨hcalls, hrest, hpre⟩ := hP
  obtain ⟨-, -, -, hnamed, -, -, -, hat⟩ := (Spec.applies_iff hf).mp happ
  obtain ⟨hg, hn⟩ := and_e (Cond.before_iff.mp (show (Jvm.Cond.and given_1 narrow_1).before args s = true from hpre))
  obtain ⟨hcnt, hgv⟩ := and_e hg
  obtain ⟨g0, r0⟩ := and_e hgv
  obtain ⟨g1, r1⟩ := and_e r0
  obtain ⟨w0, w1, w2, rfl⟩ : ∃ w0 w1 w2 : Value, args = #[w0, w1, w2] := by
    have hs : args.size = 3 := by simpa [Cond.value, given_1] using hcnt
    obtain ⟨L⟩ := args
    match L, hs with
    | [w0, w1, w2], _ => exact ⟨w0, w1, w2, rfl⟩
  have hw := fun d (hd : d ∈ tables_1) => atoms_spec (ws := Jvm.Cond.code x code maxLocals ret :: tables_1) hat d (List.mem_cons_of_mem _ hd)
  obtain ⟨hsets, hown0⟩ := atoms_of _ (rest_1_c_eq ▸ (show rest_1_c.before _ s = true from hrest))
  have hr0 := Cond.before_iff.mp hown0
  obtain ⟨i0, e0⟩ := is_v g0
  obtain rfl : w0 = (.int i0) := Option.some.inj e0
  obtain ⟨i1, e1⟩ := isL_v g1
  obtain rfl : w1 = (.long i1) := Option.some.inj e1
  obtain ⟨i2, e2⟩ := isL_v r1
  obtain rfl : w2 = (.long i2) := Option.some.inj e2
  have n5 := not_v (Cond.before_iff.mp (hsets _ (List.mem_of_getElem? (i := 2) rfl)))
  obtain ⟨i11, e10⟩ := is_v (Cond.before_iff.mp (hsets _ (List.mem_of_getElem? (i := 1) rfl)))
  have S12 : Sta s s.heap "java/lang/String" "COMPACT_STRINGS" "Z" (.int i11) := Sta.start e10 (Or.inl (hsets _ (List.mem_of_getElem? (i := 0) rfl)))
  obtain ⟨v13, e14, r15⟩ := isR_v (Cond.before_iff.mp (hsets _ (List.mem_of_getElem? (i := 8) rfl)))
  have S16 : Sta s s.heap "jdk/internal/util/Preconditions" "SIOOBE_FORMATTER" "Ljava/util/function/BiFunction;" v13 := Sta.start e14 (Or.inl (hsets _ (List.mem_of_getElem? (i := 7) rfl)))
  have c17 : ¬ (i11 = (0 : Int32)) := gotF (Cond.eq_ints e10 (Term.int_eval (0))) n5
  have hG : Gl s := ⟨⟨i11, S12, c17⟩, v13, S16, r15⟩
  have hE : EW s #[.int i0, .long i1, .long i2] EL0 := EW.cons (wd hw 74 rfl) (by decide) (EW.cons (wd hw 22 rfl) (by decide) (EW.nil))
  have hCH : CHv s EL0 s.vm s.heap := CHv.start hE (fun q hq => hcalls.1 q hq) (hsets _ (List.mem_of_getElem? (i := 2) rfl)) (wd hw 23 rfl) (wd hw 10 rfl)
  obtain ⟨n, o, h1, h2, h3, v, L, rfl, ⟨w, rfl, rfl⟩, N, -, -, ⟨r1, r2, r3, r4⟩, hnw⟩ := c_law l s _ hw hE (Old.start s) hG i0 i1 i2 tables_1 p e ha hc hk s m _ below hf ((Spec.applies_iff_loose hf).mp happ).1 ⟨rfl, rfl, State.Warmed39.refl s, hCH, fun _ q => nomatch q⟩ trivial
  exact ⟨n, _, h1, h2, h3, hpost _ _ _ _ _ _ ⟨Cond.after_iff.mpr rfl, Cond.after_iff.mpr (eq_i res_at (Term.int_eval (1)) rfl), trivial⟩ ⟨r1, r2, r3, (r4.sift fun y hy => Or.inr (N y hy)).mono (by decide) (by decide)⟩⟩
theorem main_1_1 : Claimed_1_1 := comes_1 fun _ _ _ _ _ _ h hF => ⟨h.1, hF⟩
theorem main_1_2 : Claimed_1_2 := comes_1 fun _ _ _ _ _ _ h hF => ⟨h.2.1, hF⟩
end Jvm.Pilot.@@N@@
namespace Jvm.Pilot.@@N@@
open Jvm Jvm.ClassFile Sem Op Lib Jvm.Free Jvm.Stand Jvm.Pilot.@@N@@.Jvm.D
/-! MADE BY PROGRAM (witnessworld.py) out of the Statement's table words and the real class files: 20 classes; the members and pool entries that the words name. The judged class is class 1, her method 1. -/
namespace start1
open Jvm.ClassFile
def u (s : String) : CpInfo := .utf8 (stringToUtf16 s)
/-- a pool by its gaps: so many unusable entries, then the entry; so many at the end -/
def gap : Nat → List CpInfo → List CpInfo
  | 0, r => r
  | n + 1, r => .unusable :: gap n r
def poolList (es : List (Nat × CpInfo)) (last : Nat) : List CpInfo := es.foldr (fun e r => gap e.1 (e.2 :: r)) (gap last [])
def pool (es : List (Nat × CpInfo)) (last : Nat) : Array CpInfo := ⟨poolList es last⟩
def fileOf (pool : Array CpInfo) (this : Nat) (attrs : Array Attribute := #[]) (ms : Array MethodInfo := #[]) (fl : Nat := 33) (sup : Nat := 0) (ifs : Array Nat := #[]) (fds : Array FieldInfo := #[]) : ClassFile where
  minorVersion := 0
  majorVersion := 65
  constantPool := pool
  accessFlags := fl
  thisClass := this
  superClass := sup
  interfaces := ifs
  fields := fds
  methods := ms
  attributes := attrs
def plain (name : String) (sup : Option ClassId) : Class where
  name := name
  kind := .ordinary
  loader := none
  accessFlags := 33
  super := sup
  interfaces := #[]
  cf := none
  fields := #[]
  methods := #[]
  instanceTypes := #[]
  staticTypes := #[]
  resolved := #[]
  callSites := []
  init := .initialized
  statics := none
  mirror := none

def pool0 : Array CpInfo := pool [(5, u "<init>"), (0, u "()V"), (1, .class_ 10), (1, u "java/lang/Object")] 113

def k0c0 : Code := { maxStack := 0, maxLocals := 1, code := object_method_1_code, exceptionTable := #[], attributes := #[] }
def k0m0 : Method := { name := "<init>", desc := "()V", sig := { parameters := [], returnType := none }, accessFlags := 1, code := some k0c0 }
/-- java/lang/Object -/
def k0 : Class := { plain "java/lang/Object" none with
  accessFlags := 33
  interfaces := #[]
  cf := some (fileOf pool0 8 #[] #[{ accessFlags := 1, nameIndex := 5, descriptorIndex := 6, attributes := #[] }] 33 0 #[] #[])
  fields := #[]
  methods := #[k0m0]
  instanceTypes := #[]
  staticTypes := #[]
  resolved := Array.replicate 124 none
  statics := none }

def pool1 : Array CpInfo := pool [(2, .class_ 4), (1, u "java/lang/Object"), (0, u "<init>"), (0, u "()V"), (0, .methodref 8 9), (0, .class_ 10), (0, .nameAndType 11 12), (0, u "com/example/actions_to_pages/actionstopages/RequestPathsIsUnderPinLaw"), (0, u "pick"), (0, u "(JI)C"), (0, .methodref 8 14), (0, .nameAndType 15 16), (0, u "str"), (0, u "([CI)Ljava/lang/String;"), (0, .methodref 18 19), (0, .class_ 20), (0, .nameAndType 21 22), (0, u "com/example/actions_to_pages/actionstopages/RequestPaths"), (0, u "isUnder"), (0, u "(Ljava/lang/String;Ljava/lang/String;)Z"), (0, .long 1023), (1, .class_ 26), (0, u "java/lang/String"), (0, .methodref 25 28), (0, .nameAndType 5 29), (0, u "([C)V"), (0, .methodref 25 31), (0, .nameAndType 32 33), (0, u "valueOf"), (0, u "(C)Ljava/lang/String;"), (2, u "law"), (0, u "(IJJ)Z")] 5

def k1m0 : Method := { name := "<init>", desc := "()V", sig := { parameters := [], returnType := none }, accessFlags := 2, code := none }
def k1c1 : Code := { maxStack := 6, maxLocals := 14, code := code, exceptionTable := #[], attributes := #[] }
def k1m1 : Method := { name := "law", desc := "(IJJ)Z", sig := { parameters := [.int, .long, .long], returnType := some .boolean }, accessFlags := 9, code := some k1c1 }
def k1c2 : Code := { maxStack := 4, maxLocals := 5, code := method_3_code, exceptionTable := #[], attributes := #[] }
def k1m2 : Method := { name := "pick", desc := "(JI)C", sig := { parameters := [.long, .int], returnType := some .char }, accessFlags := 10, code := some k1c2 }
def k1c3 : Code := { maxStack := 7, maxLocals := 2, code := method_4_code, exceptionTable := #[], attributes := #[] }
def k1m3 : Method := { name := "str", desc := "([CI)Ljava/lang/String;", sig := { parameters := [(.array .char), .int], returnType := some (.object "java/lang/String") }, accessFlags := 10, code := some k1c3 }
/-- com/example/actions_to_pages/actionstopages/RequestPathsIsUnderPinLaw -/
def k1 : Class := { plain "com/example/actions_to_pages/actionstopages/RequestPathsIsUnderPinLaw" (some 0) with
  accessFlags := 49
  interfaces := #[]
  cf := some (fileOf pool1 8 #[] #[{ accessFlags := 2, nameIndex := 5, descriptorIndex := 6, attributes := #[] }, { accessFlags := 9, nameIndex := 36, descriptorIndex := 37, attributes := #[] }, { accessFlags := 10, nameIndex := 11, descriptorIndex := 12, attributes := #[] }, { accessFlags := 10, nameIndex := 15, descriptorIndex := 16, attributes := #[] }] 49 2 #[] #[])
  fields := #[]
  methods := #[k1m0, k1m1, k1m2, k1m3]
  instanceTypes := #[]
  staticTypes := #[]
  resolved := Array.replicate 43 none
  statics := none }

def pool2 : Array CpInfo := pool [(1, .class_ 2), (0, u "java/io/Serializable"), (0, .class_ 4), (0, u "java/lang/Object")] 2

/-- java/io/Serializable -/
def k2 : Class := { plain "java/io/Serializable" (some 0) with
  accessFlags := 1537
  interfaces := #[]
  cf := some (fileOf pool2 1 #[] #[] 1537 3 #[] #[])
  fields := #[]
  methods := #[]
  instanceTypes := #[]
  staticTypes := #[]
  resolved := Array.replicate 7 none
  statics := none }

def pool3 : Array CpInfo := pool [(1, .class_ 2), (0, u "java/lang/Comparable"), (0, .class_ 4), (0, u "java/lang/Object")] 7

/-- java/lang/Comparable -/
def k3 : Class := { plain "java/lang/Comparable" (some 0) with
  accessFlags := 1537
  interfaces := #[]
  cf := some (fileOf pool3 1 #[] #[] 1537 3 #[] #[])
  fields := #[]
  methods := #[]
  instanceTypes := #[]
  staticTypes := #[]
  resolved := Array.replicate 12 none
  statics := none }

def pool4 : Array CpInfo := pool [(2, .class_ 4), (1, u "java/lang/CharSequence"), (42, .class_ 48), (0, u "java/lang/CharSequence$1CodePointIterator"), (10, .class_ 60), (0, u "java/lang/CharSequence$1CharIterator"), (5, .class_ 67), (0, u "java/lang/Object")] 63

/-- java/lang/CharSequence -/
def k4 : Class := { plain "java/lang/CharSequence" (some 0) with
  accessFlags := 1537
  interfaces := #[]
  cf := some (fileOf pool4 2 #[.nestMembers #[47, 59]] #[] 1537 66 #[] #[])
  fields := #[]
  methods := #[]
  instanceTypes := #[]
  staticTypes := #[]
  resolved := Array.replicate 131 none
  statics := none }

def pool5 : Array CpInfo := pool [(1, .class_ 2), (0, u "java/lang/constant/Constable"), (0, .class_ 4), (0, u "java/lang/Object")] 6

/-- java/lang/constant/Constable -/
def k5 : Class := { plain "java/lang/constant/Constable" (some 0) with
  accessFlags := 1537
  interfaces := #[]
  cf := some (fileOf pool5 1 #[] #[] 1537 3 #[] #[])
  fields := #[]
  methods := #[]
  instanceTypes := #[]
  staticTypes := #[]
  resolved := Array.replicate 11 none
  statics := none }

def pool6 : Array CpInfo := pool [(1, .class_ 2), (0, u "java/lang/constant/ConstantDesc"), (0, .class_ 4), (0, u "java/lang/Object")] 32

/-- java/lang/constant/ConstantDesc -/
def k6 : Class := { plain "java/lang/constant/ConstantDesc" (some 0) with
  accessFlags := 1537
  interfaces := #[]
  cf := some (fileOf pool6 1 #[] #[] 1537 3 #[] #[])
  fields := #[]
  methods := #[]
  instanceTypes := #[]
  staticTypes := #[]
  resolved := Array.replicate 37 none
  statics := none }

def pool7 : Array CpInfo := pool [(1, .methodref 2 3), (0, .class_ 4), (0, .nameAndType 5 6), (0, u "java/lang/Object"), (0, u "<init>"), (0, u "()V"), (0, .string 8), (0, u ""), (0, .fieldref 10 11), (0, .class_ 12), (0, .nameAndType 13 14), (0, u "java/lang/String"), (0, u "value"), (0, u "[B"), (0, .fieldref 10 16), (0, .nameAndType 17 18), (0, u "coder"), (0, u "B"), (2, u "hash"), (0, u "I"), (2, u "hashIsZero"), (0, u "Z"), (0, .methodref 10 28), (0, .nameAndType 5 29), (0, u "([CIILjava/lang/Void;)V"), (8, .fieldref 10 39), (0, .nameAndType 40 26), (0, u "COMPACT_STRINGS"), (1, .class_ 44), (1, u "java/lang/StringUTF16"), (0, u "compress"), (1, .methodref 42 48), (0, .nameAndType 49 50), (0, u "coderFromArrayLen"), (0, u "([BI)B"), (2, u "toBytes"), (53, .class_ 109), (1, u "java/lang/StringLatin1"), (32, u "()Z"), (34, .methodref 42 178), (0, .nameAndType 45 179), (0, u "([CII)[B"), (29, .methodref 10 210), (0, .nameAndType 5 211), (0, u "([BB)V"), (122, u "()I"), (0, .methodref 10 336), (0, .nameAndType 17 337), (0, u "()B"), (25, u "([BI)C"), (5, u "(C)Z"), (6, u "([BI[BII)I"), (14, u "(II)V"), (35, u "(I)C"), (64, .methodref 10 493), (0, .nameAndType 494 142), (0, u "isLatin1"), (0, .methodref 107 496), (0, .nameAndType 497 363), (0, u "charAt"), (3, u "checkIndex"), (3, .methodref 10 506), (0, .nameAndType 507 334), (0, u "length"), (51, .class_ 561), (1, u "jdk/internal/util/ArraysSupport"), (0, u "mismatch"), (12, .class_ 576), (0, u "java/lang/CharSequence"), (22, u "CASE_INSENSITIVE_ORDER"), (0, u "Ljava/util/Comparator;"), (6, .methodref 559 608), (0, .nameAndType 562 376), (15, .methodref 10 625), (0, .nameAndType 626 627), (0, u "startsWith"), (0, u "(Ljava/lang/String;I)Z"), (154, u "valueOf"), (0, u "(C)Ljava/lang/String;"), (226, u "([C)V"), (4, .methodref 107 1016), (0, .nameAndType 1017 369), (0, u "canEncode"), (0, .methodref 107 1019), (0, .nameAndType 53 1020), (0, u "(C)[B"), (32, .fieldref 1054 1055), (0, .class_ 1056), (0, .nameAndType 1057 1058), (0, u "jdk/internal/util/Preconditions"), (0, u "SIOOBE_FORMATTER"), (0, u "Ljava/util/function/BiFunction;"), (0, .methodref 1054 1060), (0, .nameAndType 501 1061), (0, u "(IILjava/util/function/BiFunction;)I"), (39, u "serialPersistentFields"), (0, u "[Ljava/io/ObjectStreamField;"), (0, .class_ 1104), (0, u "java/lang/String$CaseInsensitiveComparator"), (1, .class_ 1107), (0, u "java/io/Serializable"), (0, .class_ 1109), (0, u "java/lang/Comparable"), (0, .class_ 1111), (0, u "java/lang/constant/Constable"), (0, .class_ 1113), (0, u "java/lang/constant/ConstantDesc"), (2, u "serialVersionUID"), (0, u "J"), (3, u "REPL"), (0, u "C"), (2, u "LATIN1"), (1, u "UTF16"), (129, u "(Ljava/lang/String;)Z"), (14, u "endsWith")] 178

def k7m0 : Method := { name := "<init>", desc := "()V", sig := { parameters := [], returnType := none }, accessFlags := 1, code := none }
def k7c1 : Code := { maxStack := 5, maxLocals := 2, code := jdk_42_method_3_code, exceptionTable := #[], attributes := #[] }
def k7m1 : Method := { name := "<init>", desc := "([C)V", sig := { parameters := [(.array .char)], returnType := none }, accessFlags := 1, code := some k7c1 }
def k7c2 : Code := { maxStack := 2, maxLocals := 1, code := jdk_42_method_54_code, exceptionTable := #[], attributes := #[] }
def k7m2 : Method := { name := "length", desc := "()I", sig := { parameters := [], returnType := some .int }, accessFlags := 1, code := some k7c2 }
def k7c3 : Code := { maxStack := 2, maxLocals := 2, code := jdk_42_method_56_code, exceptionTable := #[], attributes := #[] }
def k7m3 : Method := { name := "charAt", desc := "(I)C", sig := { parameters := [.int], returnType := some .char }, accessFlags := 1, code := some k7c3 }
def k7c4 : Code := { maxStack := 5, maxLocals := 8, code := jdk_42_method_75_code, exceptionTable := #[], attributes := #[] }
def k7m4 : Method := { name := "startsWith", desc := "(Ljava/lang/String;I)Z", sig := { parameters := [(.object "java/lang/String"), .int], returnType := some .boolean }, accessFlags := 1, code := some k7c4 }
def k7c5 : Code := { maxStack := 3, maxLocals := 2, code := jdk_42_method_76_code, exceptionTable := #[], attributes := #[] }
def k7m5 : Method := { name := "startsWith", desc := "(Ljava/lang/String;)Z", sig := { parameters := [(.object "java/lang/String")], returnType := some .boolean }, accessFlags := 1, code := some k7c5 }
def k7c6 : Code := { maxStack := 4, maxLocals := 2, code := jdk_42_method_77_code, exceptionTable := #[], attributes := #[] }
def k7m6 : Method := { name := "endsWith", desc := "(Ljava/lang/String;)Z", sig := { parameters := [(.object "java/lang/String")], returnType := some .boolean }, accessFlags := 1, code := some k7c6 }
def k7c7 : Code := { maxStack := 4, maxLocals := 1, code := jdk_42_method_139_code, exceptionTable := #[], attributes := #[] }
def k7m7 : Method := { name := "valueOf", desc := "(C)Ljava/lang/String;", sig := { parameters := [.char], returnType := some (.object "java/lang/String") }, accessFlags := 9, code := some k7c7 }
def k7c8 : Code := { maxStack := 4, maxLocals := 6, code := jdk_42_method_149_code, exceptionTable := #[], attributes := #[] }
def k7m8 : Method := { name := "<init>", desc := "([CIILjava/lang/Void;)V", sig := { parameters := [(.array .char), .int, .int, (.object "java/lang/Void")], returnType := none }, accessFlags := 2, code := some k7c8 }
def k7c9 : Code := { maxStack := 2, maxLocals := 3, code := jdk_42_method_151_code, exceptionTable := #[], attributes := #[] }
def k7m9 : Method := { name := "<init>", desc := "([BB)V", sig := { parameters := [(.array .byte), .byte], returnType := none }, accessFlags := 0, code := some k7c9 }
def k7c10 : Code := { maxStack := 1, maxLocals := 1, code := jdk_42_method_152_code, exceptionTable := #[], attributes := #[] }
def k7m10 : Method := { name := "coder", desc := "()B", sig := { parameters := [], returnType := some .byte }, accessFlags := 0, code := some k7c10 }
def k7c11 : Code := { maxStack := 1, maxLocals := 1, code := jdk_42_method_154_code, exceptionTable := #[], attributes := #[] }
def k7m11 : Method := { name := "isLatin1", desc := "()Z", sig := { parameters := [], returnType := some .boolean }, accessFlags := 0, code := some k7c11 }
def k7c12 : Code := { maxStack := 3, maxLocals := 2, code := jdk_42_method_155_code, exceptionTable := #[], attributes := #[] }
def k7m12 : Method := { name := "checkIndex", desc := "(II)V", sig := { parameters := [.int, .int], returnType := none }, accessFlags := 8, code := some k7c12 }
/-- java/lang/String -/
def k7 : Class := { plain "java/lang/String" (some 0) with
  accessFlags := 49
  interfaces := #[2, 3, 4, 5, 6]
  cf := some (fileOf pool7 10 #[.nestMembers #[1103]] #[{ accessFlags := 1, nameIndex := 5, descriptorIndex := 6, attributes := #[] }, { accessFlags := 1, nameIndex := 5, descriptorIndex := 1010, attributes := #[] }, { accessFlags := 1, nameIndex := 507, descriptorIndex := 334, attributes := #[] }, { accessFlags := 1, nameIndex := 497, descriptorIndex := 427, attributes := #[] }, { accessFlags := 1, nameIndex := 626, descriptorIndex := 627, attributes := #[] }, { accessFlags := 1, nameIndex := 626, descriptorIndex := 1257, attributes := #[] }, { accessFlags := 1, nameIndex := 1272, descriptorIndex := 1257, attributes := #[] }, { accessFlags := 9, nameIndex := 782, descriptorIndex := 783, attributes := #[] }, { accessFlags := 2, nameIndex := 5, descriptorIndex := 29, attributes := #[] }, { accessFlags := 0, nameIndex := 5, descriptorIndex := 211, attributes := #[] }, { accessFlags := 0, nameIndex := 17, descriptorIndex := 337, attributes := #[] }, { accessFlags := 0, nameIndex := 494, descriptorIndex := 142, attributes := #[] }, { accessFlags := 8, nameIndex := 501, descriptorIndex := 391, attributes := #[] }] 49 2 #[1106, 1108, 575, 1110, 1112] #[{ accessFlags := 18, nameIndex := 13, descriptorIndex := 14, attributes := #[] }, { accessFlags := 18, nameIndex := 17, descriptorIndex := 18, attributes := #[] }, { accessFlags := 2, nameIndex := 21, descriptorIndex := 22, attributes := #[] }, { accessFlags := 2, nameIndex := 25, descriptorIndex := 26, attributes := #[] }, { accessFlags := 26, nameIndex := 1116, descriptorIndex := 1117, attributes := #[] }, { accessFlags := 24, nameIndex := 40, descriptorIndex := 26, attributes := #[] }, { accessFlags := 26, nameIndex := 1101, descriptorIndex := 1102, attributes := #[] }, { accessFlags := 26, nameIndex := 1121, descriptorIndex := 1122, attributes := #[] }, { accessFlags := 25, nameIndex := 599, descriptorIndex := 600, attributes := #[] }, { accessFlags := 24, nameIndex := 1125, descriptorIndex := 18, attributes := #[] }, { accessFlags := 24, nameIndex := 1127, descriptorIndex := 18, attributes := #[] }])
  fields := #[{ name := "value", type := (.array .byte), accessFlags := 18, slot := 0, constantValue := 0 }, { name := "coder", type := .byte, accessFlags := 18, slot := 1, constantValue := 0 }, { name := "hash", type := .int, accessFlags := 2, slot := 2, constantValue := 0 }, { name := "hashIsZero", type := .boolean, accessFlags := 2, slot := 3, constantValue := 0 }, { name := "serialVersionUID", type := .long, accessFlags := 26, slot := 0, constantValue := 0 }, { name := "COMPACT_STRINGS", type := .boolean, accessFlags := 24, slot := 1, constantValue := 0 }, { name := "serialPersistentFields", type := (.array (.object "java/io/ObjectStreamField")), accessFlags := 26, slot := 2, constantValue := 0 }, { name := "REPL", type := .char, accessFlags := 26, slot := 3, constantValue := 0 }, { name := "CASE_INSENSITIVE_ORDER", type := (.object "java/util/Comparator"), accessFlags := 25, slot := 4, constantValue := 0 }, { name := "LATIN1", type := .byte, accessFlags := 24, slot := 5, constantValue := 0 }, { name := "UTF16", type := .byte, accessFlags := 24, slot := 6, constantValue := 0 }]
  methods := #[k7m0, k7m1, k7m2, k7m3, k7m4, k7m5, k7m6, k7m7, k7m8, k7m9, k7m10, k7m11, k7m12]
  instanceTypes := #[(.array .byte), .byte, .int, .boolean]
  staticTypes := #[.long, .boolean, (.array (.object "java/io/ObjectStreamField")), .char, (.object "java/util/Comparator"), .byte, .byte]
  resolved := Array.replicate 1451 none
  statics := some 0 }

def pool8 : Array CpInfo := pool [(2, .class_ 4), (1, u "java/lang/Object"), (0, u "<init>"), (0, u "()V"), (11, .class_ 20), (1, u "com/example/actions_to_pages/actionstopages/RequestPaths"), (6, .class_ 29), (1, u "java/lang/String"), (2, .string 33), (0, u "/"), (0, .methodref 27 35), (0, .nameAndType 36 37), (0, u "startsWith"), (0, u "(Ljava/lang/String;)Z"), (36, u "DOT_SEGMENTS"), (0, u "Ljava/util/Set;"), (8, .methodref 27 85), (0, .nameAndType 86 87), (0, u "length"), (0, u "()I"), (0, .methodref 27 89), (0, .nameAndType 90 37), (0, u "endsWith"), (0, .methodref 27 92), (0, .nameAndType 93 94), (0, u "charAt"), (0, u "(I)C"), (58, u "isUnder"), (0, u "(Ljava/lang/String;Ljava/lang/String;)Z")] 5

def k8m0 : Method := { name := "<init>", desc := "()V", sig := { parameters := [], returnType := none }, accessFlags := 2, code := none }
def k8c1 : Code := { maxStack := 2, maxLocals := 2, code := prog_1_method_5_code, exceptionTable := #[], attributes := #[] }
def k8m1 : Method := { name := "isUnder", desc := "(Ljava/lang/String;Ljava/lang/String;)Z", sig := { parameters := [(.object "java/lang/String"), (.object "java/lang/String")], returnType := some .boolean }, accessFlags := 9, code := some k8c1 }
/-- com/example/actions_to_pages/actionstopages/RequestPaths -/
def k8 : Class := { plain "com/example/actions_to_pages/actionstopages/RequestPaths" (some 0) with
  accessFlags := 33
  interfaces := #[]
  cf := some (fileOf pool8 18 #[] #[{ accessFlags := 2, nameIndex := 5, descriptorIndex := 6, attributes := #[] }, { accessFlags := 9, nameIndex := 153, descriptorIndex := 154, attributes := #[] }] 33 2 #[] #[{ accessFlags := 26, nameIndex := 74, descriptorIndex := 75, attributes := #[] }])
  fields := #[{ name := "DOT_SEGMENTS", type := (.object "java/util/Set"), accessFlags := 26, slot := 0, constantValue := 0 }]
  methods := #[k8m0, k8m1]
  instanceTypes := #[]
  staticTypes := #[(.object "java/util/Set")]
  resolved := Array.replicate 160 none
  statics := none }

def pool9 : Array CpInfo := pool [(9, u "<init>"), (6, .class_ 18), (1, u "java/lang/Object"), (0, u "()V"), (1, .class_ 23), (1, u "jdk/internal/util/ArraysSupport"), (0, u "LOG2_ARRAY_LONG_INDEX_SCALE"), (0, u "I"), (2, u "U"), (0, u "Ljdk/internal/misc/Unsafe;"), (8, u "BIG_ENDIAN"), (0, u "Z"), (8, u "LOG2_BYTE_BIT_SIZE"), (4, u "LOG2_ARRAY_INT_INDEX_SCALE"), (54, u "JLA"), (0, u "Ljdk/internal/access/JavaLangAccess;"), (11, u "LOG2_ARRAY_BOOLEAN_INDEX_SCALE"), (9, u "LOG2_ARRAY_BYTE_INDEX_SCALE"), (5, u "LOG2_ARRAY_CHAR_INDEX_SCALE"), (5, u "LOG2_ARRAY_SHORT_INDEX_SCALE"), (5, u "mismatch"), (12, u "LOG2_ARRAY_FLOAT_INDEX_SCALE"), (24, u "LOG2_ARRAY_DOUBLE_INDEX_SCALE"), (89, u "T_BOOLEAN"), (2, u "T_CHAR"), (1, u "T_FLOAT"), (1, u "T_DOUBLE"), (1, u "T_BYTE"), (1, u "T_SHORT"), (1, u "T_INT"), (1, u "T_LONG"), (1, u "SOFT_MAX_ARRAY_LENGTH"), (42, u "([BI[BII)I")] 40

def k9m0 : Method := { name := "<init>", desc := "()V", sig := { parameters := [], returnType := none }, accessFlags := 2, code := none }
def k9c1 : Code := { maxStack := 8, maxLocals := 8, code := jdk_48_method_14_code, exceptionTable := #[], attributes := #[] }
def k9m1 : Method := { name := "mismatch", desc := "([BI[BII)I", sig := { parameters := [(.array .byte), .int, (.array .byte), .int, .int], returnType := some .int }, accessFlags := 9, code := some k9c1 }
/-- jdk/internal/util/ArraysSupport -/
def k9 : Class := { plain "jdk/internal/util/ArraysSupport" (some 0) with
  accessFlags := 33
  interfaces := #[]
  cf := some (fileOf pool9 21 #[] #[{ accessFlags := 2, nameIndex := 9, descriptorIndex := 19, attributes := #[] }, { accessFlags := 9, nameIndex := 149, descriptorIndex := 337, attributes := #[] }] 33 16 #[] #[{ accessFlags := 24, nameIndex := 28, descriptorIndex := 29, attributes := #[] }, { accessFlags := 26, nameIndex := 38, descriptorIndex := 39, attributes := #[] }, { accessFlags := 25, nameIndex := 121, descriptorIndex := 25, attributes := #[] }, { accessFlags := 25, nameIndex := 131, descriptorIndex := 25, attributes := #[] }, { accessFlags := 25, nameIndex := 137, descriptorIndex := 25, attributes := #[] }, { accessFlags := 25, nameIndex := 143, descriptorIndex := 25, attributes := #[] }, { accessFlags := 25, nameIndex := 53, descriptorIndex := 25, attributes := #[] }, { accessFlags := 25, nameIndex := 24, descriptorIndex := 25, attributes := #[] }, { accessFlags := 25, nameIndex := 162, descriptorIndex := 25, attributes := #[] }, { accessFlags := 25, nameIndex := 187, descriptorIndex := 25, attributes := #[] }, { accessFlags := 26, nameIndex := 48, descriptorIndex := 25, attributes := #[] }, { accessFlags := 25, nameIndex := 277, descriptorIndex := 25, attributes := #[] }, { accessFlags := 25, nameIndex := 280, descriptorIndex := 25, attributes := #[] }, { accessFlags := 25, nameIndex := 282, descriptorIndex := 25, attributes := #[] }, { accessFlags := 25, nameIndex := 284, descriptorIndex := 25, attributes := #[] }, { accessFlags := 25, nameIndex := 286, descriptorIndex := 25, attributes := #[] }, { accessFlags := 25, nameIndex := 288, descriptorIndex := 25, attributes := #[] }, { accessFlags := 25, nameIndex := 290, descriptorIndex := 25, attributes := #[] }, { accessFlags := 25, nameIndex := 292, descriptorIndex := 25, attributes := #[] }, { accessFlags := 26, nameIndex := 108, descriptorIndex := 109, attributes := #[] }, { accessFlags := 25, nameIndex := 294, descriptorIndex := 25, attributes := #[] }])
  fields := #[{ name := "U", type := (.object "jdk/internal/misc/Unsafe"), accessFlags := 24, slot := 0, constantValue := 0 }, { name := "BIG_ENDIAN", type := .boolean, accessFlags := 26, slot := 1, constantValue := 0 }, { name := "LOG2_ARRAY_BOOLEAN_INDEX_SCALE", type := .int, accessFlags := 25, slot := 2, constantValue := 0 }, { name := "LOG2_ARRAY_BYTE_INDEX_SCALE", type := .int, accessFlags := 25, slot := 3, constantValue := 0 }, { name := "LOG2_ARRAY_CHAR_INDEX_SCALE", type := .int, accessFlags := 25, slot := 4, constantValue := 0 }, { name := "LOG2_ARRAY_SHORT_INDEX_SCALE", type := .int, accessFlags := 25, slot := 5, constantValue := 0 }, { name := "LOG2_ARRAY_INT_INDEX_SCALE", type := .int, accessFlags := 25, slot := 6, constantValue := 0 }, { name := "LOG2_ARRAY_LONG_INDEX_SCALE", type := .int, accessFlags := 25, slot := 7, constantValue := 0 }, { name := "LOG2_ARRAY_FLOAT_INDEX_SCALE", type := .int, accessFlags := 25, slot := 8, constantValue := 0 }, { name := "LOG2_ARRAY_DOUBLE_INDEX_SCALE", type := .int, accessFlags := 25, slot := 9, constantValue := 0 }, { name := "LOG2_BYTE_BIT_SIZE", type := .int, accessFlags := 26, slot := 10, constantValue := 0 }, { name := "T_BOOLEAN", type := .int, accessFlags := 25, slot := 11, constantValue := 0 }, { name := "T_CHAR", type := .int, accessFlags := 25, slot := 12, constantValue := 0 }, { name := "T_FLOAT", type := .int, accessFlags := 25, slot := 13, constantValue := 0 }, { name := "T_DOUBLE", type := .int, accessFlags := 25, slot := 14, constantValue := 0 }, { name := "T_BYTE", type := .int, accessFlags := 25, slot := 15, constantValue := 0 }, { name := "T_SHORT", type := .int, accessFlags := 25, slot := 16, constantValue := 0 }, { name := "T_INT", type := .int, accessFlags := 25, slot := 17, constantValue := 0 }, { name := "T_LONG", type := .int, accessFlags := 25, slot := 18, constantValue := 0 }, { name := "JLA", type := (.object "jdk/internal/access/JavaLangAccess"), accessFlags := 26, slot := 19, constantValue := 0 }, { name := "SOFT_MAX_ARRAY_LENGTH", type := .int, accessFlags := 25, slot := 20, constantValue := 0 }]
  methods := #[k9m0, k9m1]
  instanceTypes := #[]
  staticTypes := #[(.object "jdk/internal/misc/Unsafe"), .boolean, .int, .int, .int, .int, .int, .int, .int, .int, .int, .int, .int, .int, .int, .int, .int, .int, .int, (.object "jdk/internal/access/JavaLangAccess"), .int]
  resolved := Array.replicate 378 none
  statics := none }

def pool10 : Array CpInfo := pool [(1, .class_ 2), (0, u "java/lang/String"), (1, .class_ 6), (1, u "java/lang/Object"), (0, u "<init>"), (0, u "()V"), (0, .methodref 1 10), (0, .nameAndType 11 12), (0, u "checkIndex"), (0, u "(II)V"), (1, .class_ 16), (1, u "java/lang/StringLatin1"), (36, u "([BI)C"), (36, u "canEncode"), (14, u "(C)Z"), (15, u "$assertionsDisabled"), (0, u "Z"), (98, .class_ 223), (1, u "java/lang/StringLatin1$LinesSpliterator"), (28, u "charAt"), (127, u "toBytes"), (1, u "(C)[B"), (7, .class_ 391), (0, u "java/lang/StringLatin1$CharsSpliterator")] 3

def k10m0 : Method := { name := "<init>", desc := "()V", sig := { parameters := [], returnType := none }, accessFlags := 0, code := none }
def k10c1 : Code := { maxStack := 2, maxLocals := 2, code := jdk_43_method_2_code, exceptionTable := #[], attributes := #[] }
def k10m1 : Method := { name := "charAt", desc := "([BI)C", sig := { parameters := [(.array .byte), .int], returnType := some .char }, accessFlags := 9, code := some k10c1 }
def k10c2 : Code := { maxStack := 2, maxLocals := 1, code := jdk_43_method_3_code, exceptionTable := #[], attributes := #[] }
def k10m2 : Method := { name := "canEncode", desc := "(C)Z", sig := { parameters := [.char], returnType := some .boolean }, accessFlags := 9, code := some k10c2 }
def k10c3 : Code := { maxStack := 4, maxLocals := 1, code := jdk_43_method_46_code, exceptionTable := #[], attributes := #[] }
def k10m3 : Method := { name := "toBytes", desc := "(C)[B", sig := { parameters := [.char], returnType := some (.array .byte) }, accessFlags := 9, code := some k10c3 }
/-- java/lang/StringLatin1 -/
def k10 : Class := { plain "java/lang/StringLatin1" (some 0) with
  accessFlags := 48
  interfaces := #[]
  cf := some (fileOf pool10 14 #[.nestMembers #[390, 221]] #[{ accessFlags := 0, nameIndex := 7, descriptorIndex := 8, attributes := #[] }, { accessFlags := 9, nameIndex := 252, descriptorIndex := 53, attributes := #[] }, { accessFlags := 9, nameIndex := 90, descriptorIndex := 105, attributes := #[] }, { accessFlags := 9, nameIndex := 380, descriptorIndex := 382, attributes := #[] }] 48 4 #[] #[{ accessFlags := 4120, nameIndex := 121, descriptorIndex := 122, attributes := #[] }])
  fields := #[{ name := "$assertionsDisabled", type := .boolean, accessFlags := 4120, slot := 0, constantValue := 0 }]
  methods := #[k10m0, k10m1, k10m2, k10m3]
  instanceTypes := #[]
  staticTypes := #[.boolean]
  resolved := Array.replicate 395 none
  statics := none }

def pool11 : Array CpInfo := pool [(2, .class_ 4), (1, u "java/lang/Object"), (0, u "<init>"), (0, u "()V"), (17, .class_ 26), (1, u "jdk/internal/util/Preconditions"), (6, u "checkIndex"), (21, .class_ 56), (0, u "jdk/internal/util/Preconditions$4"), (57, .class_ 115), (0, u "jdk/internal/util/Preconditions$1"), (7, u "SIOOBE_FORMATTER"), (0, u "Ljava/util/function/BiFunction;"), (0, .class_ 126), (0, u "jdk/internal/util/Preconditions$2"), (3, u "AIOOBE_FORMATTER"), (0, .class_ 132), (0, u "jdk/internal/util/Preconditions$3"), (3, u "IOOBE_FORMATTER"), (41, u "(IILjava/util/function/BiFunction;)I")] 15

def k11m0 : Method := { name := "<init>", desc := "()V", sig := { parameters := [], returnType := none }, accessFlags := 1, code := none }
def k11c1 : Code := { maxStack := 3, maxLocals := 3, code := jdk_41_method_11_code, exceptionTable := #[], attributes := #[] }
def k11m1 : Method := { name := "checkIndex", desc := "(IILjava/util/function/BiFunction;)I", sig := { parameters := [.int, .int, (.object "java/util/function/BiFunction")], returnType := some .int }, accessFlags := 9, code := some k11c1 }
/-- jdk/internal/util/Preconditions -/
def k11 : Class := { plain "jdk/internal/util/Preconditions" (some 0) with
  accessFlags := 33
  interfaces := #[]
  cf := some (fileOf pool11 24 #[.nestMembers #[55, 131, 125, 114]] #[{ accessFlags := 1, nameIndex := 5, descriptorIndex := 6, attributes := #[] }, { accessFlags := 9, nameIndex := 33, descriptorIndex := 178, attributes := #[] }] 33 2 #[] #[{ accessFlags := 25, nameIndex := 123, descriptorIndex := 124, attributes := #[] }, { accessFlags := 25, nameIndex := 130, descriptorIndex := 124, attributes := #[] }, { accessFlags := 25, nameIndex := 136, descriptorIndex := 124, attributes := #[] }])
  fields := #[{ name := "SIOOBE_FORMATTER", type := (.object "java/util/function/BiFunction"), accessFlags := 25, slot := 0, constantValue := 0 }, { name := "AIOOBE_FORMATTER", type := (.object "java/util/function/BiFunction"), accessFlags := 25, slot := 1, constantValue := 0 }, { name := "IOOBE_FORMATTER", type := (.object "java/util/function/BiFunction"), accessFlags := 25, slot := 2, constantValue := 0 }]
  methods := #[k11m0, k11m1]
  instanceTypes := #[]
  staticTypes := #[(.object "java/util/function/BiFunction"), (.object "java/util/function/BiFunction"), (.object "java/util/function/BiFunction")]
  resolved := Array.replicate 194 none
  statics := some 1 }

def pool12 : Array CpInfo := pool [(6, .class_ 8), (1, u "java/lang/Object"), (0, u "<init>"), (0, u "()V"), (1, .class_ 14), (1, u "java/lang/StringUTF16"), (31, u "$assertionsDisabled"), (0, u "Z"), (13, u "HI_BYTE_SHIFT"), (0, u "I"), (2, u "LO_BYTE_SHIFT"), (49, .methodref 12 116), (0, .nameAndType 117 118), (0, u "compress"), (0, u "([CI[BII)I"), (3, u "([CII)[B"), (138, u "coderFromArrayLen"), (0, u "([BI)B"), (106, .class_ 371), (1, u "java/lang/StringUTF16$LinesSpliterator"), (58, u "MAX_LENGTH"), (196, .class_ 628), (0, u "java/lang/StringUTF16$CodePointsSpliterator"), (0, .class_ 630), (0, u "java/lang/StringUTF16$CharsSpliterator")] 4

def k12m0 : Method := { name := "<init>", desc := "()V", sig := { parameters := [], returnType := none }, accessFlags := 0, code := none }
def k12c1 : Code := { maxStack := 2, maxLocals := 2, code := jdk_52_method_15_code, exceptionTable := #[], attributes := #[] }
def k12m1 : Method := { name := "coderFromArrayLen", desc := "([BI)B", sig := { parameters := [(.array .byte), .int], returnType := some .byte }, accessFlags := 8, code := some k12c1 }
def k12c2 : Code := { maxStack := 5, maxLocals := 6, code := jdk_52_method_16_code, exceptionTable := #[], attributes := #[] }
def k12m2 : Method := { name := "compress", desc := "([CII)[B", sig := { parameters := [(.array .char), .int, .int], returnType := some (.array .byte) }, accessFlags := 9, code := some k12c2 }
def k12c3 : Code := { maxStack := 3, maxLocals := 7, code := jdk_52_method_21_code, exceptionTable := #[], attributes := #[] }
def k12m3 : Method := { name := "compress", desc := "([CI[BII)I", sig := { parameters := [(.array .char), .int, (.array .byte), .int, .int], returnType := some .int }, accessFlags := 9, code := some k12c3 }
/-- java/lang/StringUTF16 -/
def k12 : Class := { plain "java/lang/StringUTF16" (some 0) with
  accessFlags := 48
  interfaces := #[]
  cf := some (fileOf pool12 12 #[.nestMembers #[627, 629, 369]] #[{ accessFlags := 0, nameIndex := 9, descriptorIndex := 10, attributes := #[] }, { accessFlags := 8, nameIndex := 261, descriptorIndex := 262, attributes := #[] }, { accessFlags := 9, nameIndex := 117, descriptorIndex := 122, attributes := #[] }, { accessFlags := 9, nameIndex := 117, descriptorIndex := 118, attributes := #[] }] 48 6 #[] #[{ accessFlags := 26, nameIndex := 61, descriptorIndex := 62, attributes := #[] }, { accessFlags := 26, nameIndex := 65, descriptorIndex := 62, attributes := #[] }, { accessFlags := 24, nameIndex := 430, descriptorIndex := 62, attributes := #[] }, { accessFlags := 4120, nameIndex := 46, descriptorIndex := 47, attributes := #[] }])
  fields := #[{ name := "HI_BYTE_SHIFT", type := .int, accessFlags := 26, slot := 0, constantValue := 0 }, { name := "LO_BYTE_SHIFT", type := .int, accessFlags := 26, slot := 1, constantValue := 0 }, { name := "MAX_LENGTH", type := .int, accessFlags := 24, slot := 2, constantValue := 0 }, { name := "$assertionsDisabled", type := .boolean, accessFlags := 4120, slot := 3, constantValue := 0 }]
  methods := #[k12m0, k12m1, k12m2, k12m3]
  instanceTypes := #[]
  staticTypes := #[.int, .int, .int, .boolean]
  resolved := Array.replicate 635 none
  statics := none }

def pool13 : Array CpInfo := pool [(1, u "java/lang/Cloneable"), (0, .class_ 1), (0, u "java/lang/Object"), (0, .class_ 3)] 3

/-- java/lang/Cloneable -/
def k13 : Class := { plain "java/lang/Cloneable" (some 0) with
  accessFlags := 1537
  interfaces := #[]
  cf := some (fileOf pool13 2 #[] #[] 1537 4 #[] #[])
  fields := #[]
  methods := #[]
  instanceTypes := #[]
  staticTypes := #[]
  resolved := Array.replicate 8 none
  statics := none }

/-- the primitive byte -/
def k14 : Class := { plain "byte" none with kind := .primitive 'B', accessFlags := 0x411 }
/-- [B -/
def k15 : Class := { plain "[B" (some 0) with kind := .array 14 .byte, interfaces := #[13, 2], accessFlags := 1041 }

/-- the primitive char -/
def k16 : Class := { plain "char" none with kind := .primitive 'C', accessFlags := 0x411 }
/-- [C -/
def k17 : Class := { plain "[C" (some 0) with kind := .array 16 .char, interfaces := #[13, 2], accessFlags := 1041 }

/-- the primitive int -/
def k18 : Class := { plain "int" none with kind := .primitive 'I', accessFlags := 0x411 }
/-- [I -/
def k19 : Class := { plain "[I" (some 0) with kind := .array 18 .int, interfaces := #[13, 2], accessFlags := 1041 }

def heap : Heap := #[{ cls := 7, slots := #[.long 0, .int 1, .null, .int 0, .null, .int 0, .int 0], vm := .statics 7 },
  { cls := 11, slots := #[.null, .null, .null], vm := .statics 11 }]
def classes : Array Class := #[k0, k1, k2, k3, k4, k5, k6, k7, k8, k9, k10, k11, k12, k13, k14, k15, k16, k17, k18, k19]
def interned : List (Array UInt16 × Addr) := []
def slotsUsed : Nat := 10
def theMethod : MethodId := ⟨1, 1⟩
def args0 : Array Value := #[.int 5, .long 6, .long 7]
def aboutOver (below : List Frame) : State where
  vm := { classes := classes, interned := interned.toArray }
  heap := heap
  slotsUsed := slotsUsed
  threads := #[{ frames := .invoking theMethod args0 :: below }]
def below0 : List Frame := [.native { method := ⟨0, 0⟩, args := #[] }]
def about1 : State := aboutOver below0
def p0 : Program := .bare "" "" ""
def e0 : Env := launch0.env 0 0 0
theorem w_frames : about1.frames = Frame.invoking theMethod args0 :: below0 := rfl
set_option maxRecDepth 65536 in
theorem w_args : argsFit about1.vm theMethod args0 = true := by decide +kernel
set_option maxRecDepth 65536 in
theorem w_heap : heapFits about1 = true := by decide +kernel
set_option maxRecDepth 65536 in
theorem w_runnable : about1.curStatus? = some .runnable := by decide +kernel
set_option maxRecDepth 65536 in
theorem w_alone : about1.alone = true := by decide +kernel
set_option maxRecDepth 65536 in
theorem w_named : about1.methodNamed? x = some theMethod := by decide +kernel
set_option maxRecDepth 65536 in
theorem w_hears : about1.hears theMethod below0 = true := by decide +kernel
set_option maxRecDepth 65536 in
theorem w_ripe : about1.ripe theMethod args0 below0 = true := by decide +kernel
theorem w_running : about1.status = .running := rfl
set_option maxRecDepth 65536 in
theorem w_room : about1.hasRoom e0.platform room_1 = true :=
  launch0.hasRoom_least _ room_1 (by decide +kernel) (by decide +kernel) (by decide +kernel) (by decide +kernel) (by decide +kernel) (by decide +kernel)
theorem allAtoms_all (ts : List Jvm.Cond) (a : Array Jvm.Value) (st : Jvm.State) : (allAtoms ts).before a st = ts.all (fun c => c.before a st) := by
  induction ts with
  | nil => rfl
  | cons c t ih =>
    show (Jvm.Cond.and c (allAtoms t)).before a st = _
    rw [Jvm.Cond.before_and, ih, List.all_cons]
def words1 : List Jvm.Cond := Jvm.Cond.code x code maxLocals ret :: tables_1
/-- a 'code' word, met by the world's own term for the bytes: nothing is compared byte by byte -/
theorem code_word {y : MethodName} {bytes : ByteArray} {mx : Nat} {rt : Option FieldType} {a : Array Value} {s : State} {m : MethodId} {meth : Method} {c : Code} (h1 : s.methodNamed? y = some m) (h2 : s.vm.method? m = some meth) (h3 : meth.code = some c) (h4 : c.code = bytes)
    (h5 : (c.maxLocals == mx && c.exceptionTable.isEmpty && decide (c.maxStack ≤ mostOperands) && decide (meth.sig.returnType = rt) && !meth.locks && decide (parseMethodDescriptor y.desc = some meth.sig)) = true) : (Jvm.Cond.code y bytes mx rt).before a s = true := by
  simp only [Bool.and_eq_true, beq_iff_eq, Bool.not_eq_true', decide_eq_true_eq] at h5
  obtain ⟨⟨⟨⟨⟨g1, g2⟩, g3⟩, g4⟩, g5⟩, g6⟩ := h5
  simp [Cond.before, Cond.holds, Cond.value, h1, h2, h3, h4, g1, g2, g3, g4, g5, g6]
def isCode : Jvm.Cond → Bool
  | .code _ _ _ _ => true
  | _ => false
theorem all_split {L : List Jvm.Cond} {P : Jvm.Cond → Bool} (h1 : L.all (fun c => isCode c || P c) = true) (h2 : ∀ c ∈ L.filter isCode, P c = true) : L.all P = true := by
  refine List.all_eq_true.mpr fun c hc => ?_
  have h := List.all_eq_true.mp h1 c hc
  rcases Bool.eq_false_or_eq_true (isCode c) with hi | hi
  · exact h2 c (List.mem_filter.mpr ⟨hc, hi⟩)
  · simpa [hi] using h
set_option maxRecDepth 65536 in
theorem w_c0 : (Jvm.Cond.code x code maxLocals ret).before args0 about1 = true := code_word (m := ⟨1, 1⟩) (meth := k1m1) (c := k1c1) (by decide +kernel) rfl rfl rfl (by decide +kernel)
set_option maxRecDepth 65536 in
theorem w_c1 : (Jvm.Cond.code ({ cls := "com/example/actions_to_pages/actionstopages/RequestPathsIsUnderPinLaw", name := "pick", desc := "(JI)C" } : Jvm.MethodName) method_3_code (5 : Nat) (Option.some Jvm.ClassFile.FieldType.char)).before args0 about1 = true := code_word (m := ⟨1, 2⟩) (meth := k1m2) (c := k1c2) (by decide +kernel) rfl rfl rfl (by decide +kernel)
set_option maxRecDepth 65536 in
theorem w_c2 : (Jvm.Cond.code ({ cls := "com/example/actions_to_pages/actionstopages/RequestPathsIsUnderPinLaw", name := "str", desc := "([CI)Ljava/lang/String;" } : Jvm.MethodName) method_4_code (2 : Nat) (Option.some (Jvm.ClassFile.FieldType.object "java/lang/String"))).before args0 about1 = true := code_word (m := ⟨1, 3⟩) (meth := k1m3) (c := k1c3) (by decide +kernel) rfl rfl rfl (by decide +kernel)
set_option maxRecDepth 65536 in
theorem w_c3 : (Jvm.Cond.code ({ cls := "java/lang/String", name := "<init>", desc := "([C)V" } : Jvm.MethodName) jdk_42_method_3_code (2 : Nat) (Option.none : Option Jvm.ClassFile.FieldType)).before args0 about1 = true := code_word (m := ⟨7, 1⟩) (meth := k7m1) (c := k7c1) (by decide +kernel) rfl rfl rfl (by decide +kernel)
set_option maxRecDepth 65536 in
theorem w_c4 : (Jvm.Cond.code ({ cls := "java/lang/String", name := "<init>", desc := "([CIILjava/lang/Void;)V" } : Jvm.MethodName) jdk_42_method_149_code (6 : Nat) (Option.none : Option Jvm.ClassFile.FieldType)).before args0 about1 = true := code_word (m := ⟨7, 8⟩) (meth := k7m8) (c := k7c8) (by decide +kernel) rfl rfl rfl (by decide +kernel)
set_option maxRecDepth 65536 in
theorem w_c5 : (Jvm.Cond.code ({ cls := "java/lang/Object", name := "<init>", desc := "()V" } : Jvm.MethodName) object_method_1_code (1 : Nat) (Option.none : Option Jvm.ClassFile.FieldType)).before args0 about1 = true := code_word (m := ⟨0, 0⟩) (meth := k0m0) (c := k0c0) (by decide +kernel) rfl rfl rfl (by decide +kernel)
set_option maxRecDepth 65536 in
theorem w_c6 : (Jvm.Cond.code ({ cls := "com/example/actions_to_pages/actionstopages/RequestPaths", name := "isUnder", desc := "(Ljava/lang/String;Ljava/lang/String;)Z" } : Jvm.MethodName) prog_1_method_5_code (2 : Nat) (Option.some Jvm.ClassFile.FieldType.boolean)).before args0 about1 = true := code_word (m := ⟨8, 1⟩) (meth := k8m1) (c := k8c1) (by decide +kernel) rfl rfl rfl (by decide +kernel)
set_option maxRecDepth 65536 in
theorem w_c7 : (Jvm.Cond.code ({ cls := "java/lang/String", name := "startsWith", desc := "(Ljava/lang/String;)Z" } : Jvm.MethodName) jdk_42_method_76_code (2 : Nat) (Option.some Jvm.ClassFile.FieldType.boolean)).before args0 about1 = true := code_word (m := ⟨7, 5⟩) (meth := k7m5) (c := k7c5) (by decide +kernel) rfl rfl rfl (by decide +kernel)
set_option maxRecDepth 65536 in
theorem w_c8 : (Jvm.Cond.code ({ cls := "java/lang/String", name := "startsWith", desc := "(Ljava/lang/String;I)Z" } : Jvm.MethodName) jdk_42_method_75_code (8 : Nat) (Option.some Jvm.ClassFile.FieldType.boolean)).before args0 about1 = true := code_word (m := ⟨7, 4⟩) (meth := k7m4) (c := k7c4) (by decide +kernel) rfl rfl rfl (by decide +kernel)
set_option maxRecDepth 65536 in
theorem w_c9 : (Jvm.Cond.code ({ cls := "java/lang/String", name := "length", desc := "()I" } : Jvm.MethodName) jdk_42_method_54_code (1 : Nat) (Option.some Jvm.ClassFile.FieldType.int)).before args0 about1 = true := code_word (m := ⟨7, 2⟩) (meth := k7m2) (c := k7c2) (by decide +kernel) rfl rfl rfl (by decide +kernel)
set_option maxRecDepth 65536 in
theorem w_c10 : (Jvm.Cond.code ({ cls := "java/lang/String", name := "coder", desc := "()B" } : Jvm.MethodName) jdk_42_method_152_code (1 : Nat) (Option.some Jvm.ClassFile.FieldType.byte)).before args0 about1 = true := code_word (m := ⟨7, 10⟩) (meth := k7m10) (c := k7c10) (by decide +kernel) rfl rfl rfl (by decide +kernel)
set_option maxRecDepth 65536 in
theorem w_c11 : (Jvm.Cond.code ({ cls := "jdk/internal/util/ArraysSupport", name := "mismatch", desc := "([BI[BII)I" } : Jvm.MethodName) jdk_48_method_14_code (8 : Nat) (Option.some Jvm.ClassFile.FieldType.int)).before args0 about1 = true := code_word (m := ⟨9, 1⟩) (meth := k9m1) (c := k9c1) (by decide +kernel) rfl rfl rfl (by decide +kernel)
set_option maxRecDepth 65536 in
theorem w_c12 : (Jvm.Cond.code ({ cls := "java/lang/String", name := "valueOf", desc := "(C)Ljava/lang/String;" } : Jvm.MethodName) jdk_42_method_139_code (1 : Nat) (Option.some (Jvm.ClassFile.FieldType.object "java/lang/String"))).before args0 about1 = true := code_word (m := ⟨7, 7⟩) (meth := k7m7) (c := k7c7) (by decide +kernel) rfl rfl rfl (by decide +kernel)
set_option maxRecDepth 65536 in
theorem w_c13 : (Jvm.Cond.code ({ cls := "java/lang/StringLatin1", name := "canEncode", desc := "(C)Z" } : Jvm.MethodName) jdk_43_method_3_code (1 : Nat) (Option.some Jvm.ClassFile.FieldType.boolean)).before args0 about1 = true := code_word (m := ⟨10, 2⟩) (meth := k10m2) (c := k10c2) (by decide +kernel) rfl rfl rfl (by decide +kernel)
set_option maxRecDepth 65536 in
theorem w_c14 : (Jvm.Cond.code ({ cls := "java/lang/StringLatin1", name := "toBytes", desc := "(C)[B" } : Jvm.MethodName) jdk_43_method_46_code (1 : Nat) (Option.some (Jvm.ClassFile.FieldType.array Jvm.ClassFile.FieldType.byte))).before args0 about1 = true := code_word (m := ⟨10, 3⟩) (meth := k10m3) (c := k10c3) (by decide +kernel) rfl rfl rfl (by decide +kernel)
set_option maxRecDepth 65536 in
theorem w_c15 : (Jvm.Cond.code ({ cls := "java/lang/String", name := "<init>", desc := "([BB)V" } : Jvm.MethodName) jdk_42_method_151_code (3 : Nat) (Option.none : Option Jvm.ClassFile.FieldType)).before args0 about1 = true := code_word (m := ⟨7, 9⟩) (meth := k7m9) (c := k7c9) (by decide +kernel) rfl rfl rfl (by decide +kernel)
set_option maxRecDepth 65536 in
theorem w_c16 : (Jvm.Cond.code ({ cls := "java/lang/String", name := "endsWith", desc := "(Ljava/lang/String;)Z" } : Jvm.MethodName) jdk_42_method_77_code (2 : Nat) (Option.some Jvm.ClassFile.FieldType.boolean)).before args0 about1 = true := code_word (m := ⟨7, 6⟩) (meth := k7m6) (c := k7c6) (by decide +kernel) rfl rfl rfl (by decide +kernel)
set_option maxRecDepth 65536 in
theorem w_c17 : (Jvm.Cond.code ({ cls := "java/lang/String", name := "charAt", desc := "(I)C" } : Jvm.MethodName) jdk_42_method_56_code (2 : Nat) (Option.some Jvm.ClassFile.FieldType.char)).before args0 about1 = true := code_word (m := ⟨7, 3⟩) (meth := k7m3) (c := k7c3) (by decide +kernel) rfl rfl rfl (by decide +kernel)
set_option maxRecDepth 65536 in
theorem w_c18 : (Jvm.Cond.code ({ cls := "java/lang/String", name := "isLatin1", desc := "()Z" } : Jvm.MethodName) jdk_42_method_154_code (1 : Nat) (Option.some Jvm.ClassFile.FieldType.boolean)).before args0 about1 = true := code_word (m := ⟨7, 11⟩) (meth := k7m11) (c := k7c11) (by decide +kernel) rfl rfl rfl (by decide +kernel)
set_option maxRecDepth 65536 in
theorem w_c19 : (Jvm.Cond.code ({ cls := "java/lang/StringLatin1", name := "charAt", desc := "([BI)C" } : Jvm.MethodName) jdk_43_method_2_code (2 : Nat) (Option.some Jvm.ClassFile.FieldType.char)).before args0 about1 = true := code_word (m := ⟨10, 1⟩) (meth := k10m1) (c := k10c1) (by decide +kernel) rfl rfl rfl (by decide +kernel)
set_option maxRecDepth 65536 in
theorem w_c20 : (Jvm.Cond.code ({ cls := "java/lang/String", name := "checkIndex", desc := "(II)V" } : Jvm.MethodName) jdk_42_method_155_code (2 : Nat) (Option.none : Option Jvm.ClassFile.FieldType)).before args0 about1 = true := code_word (m := ⟨7, 12⟩) (meth := k7m12) (c := k7c12) (by decide +kernel) rfl rfl rfl (by decide +kernel)
set_option maxRecDepth 65536 in
theorem w_c21 : (Jvm.Cond.code ({ cls := "jdk/internal/util/Preconditions", name := "checkIndex", desc := "(IILjava/util/function/BiFunction;)I" } : Jvm.MethodName) jdk_41_method_11_code (3 : Nat) (Option.some Jvm.ClassFile.FieldType.int)).before args0 about1 = true := code_word (m := ⟨11, 1⟩) (meth := k11m1) (c := k11c1) (by decide +kernel) rfl rfl rfl (by decide +kernel)
set_option maxRecDepth 65536 in
theorem w_c22 : (Jvm.Cond.code ({ cls := "java/lang/StringUTF16", name := "compress", desc := "([CII)[B" } : Jvm.MethodName) jdk_52_method_16_code (6 : Nat) (Option.some (Jvm.ClassFile.FieldType.array Jvm.ClassFile.FieldType.byte))).before args0 about1 = true := code_word (m := ⟨12, 2⟩) (meth := k12m2) (c := k12c2) (by decide +kernel) rfl rfl rfl (by decide +kernel)
set_option maxRecDepth 65536 in
theorem w_c23 : (Jvm.Cond.code ({ cls := "java/lang/StringUTF16", name := "compress", desc := "([CI[BII)I" } : Jvm.MethodName) jdk_52_method_21_code (7 : Nat) (Option.some Jvm.ClassFile.FieldType.int)).before args0 about1 = true := code_word (m := ⟨12, 3⟩) (meth := k12m3) (c := k12c3) (by decide +kernel) rfl rfl rfl (by decide +kernel)
set_option maxRecDepth 65536 in
theorem w_c24 : (Jvm.Cond.code ({ cls := "java/lang/StringUTF16", name := "coderFromArrayLen", desc := "([BI)B" } : Jvm.MethodName) jdk_52_method_15_code (2 : Nat) (Option.some Jvm.ClassFile.FieldType.byte)).before args0 about1 = true := code_word (m := ⟨12, 1⟩) (meth := k12m1) (c := k12c1) (by decide +kernel) rfl rfl rfl (by decide +kernel)
def codes1 : List Jvm.Cond := [Jvm.Cond.code x code maxLocals ret, Jvm.Cond.code ({ cls := "com/example/actions_to_pages/actionstopages/RequestPathsIsUnderPinLaw", name := "pick", desc := "(JI)C" } : Jvm.MethodName) method_3_code (5 : Nat) (Option.some Jvm.ClassFile.FieldType.char), Jvm.Cond.code ({ cls := "com/example/actions_to_pages/actionstopages/RequestPathsIsUnderPinLaw", name := "str", desc := "([CI)Ljava/lang/String;" } : Jvm.MethodName) method_4_code (2 : Nat) (Option.some (Jvm.ClassFile.FieldType.object "java/lang/String")), Jvm.Cond.code ({ cls := "java/lang/String", name := "<init>", desc := "([C)V" } : Jvm.MethodName) jdk_42_method_3_code (2 : Nat) (Option.none : Option Jvm.ClassFile.FieldType), Jvm.Cond.code ({ cls := "java/lang/String", name := "<init>", desc := "([CIILjava/lang/Void;)V" } : Jvm.MethodName) jdk_42_method_149_code (6 : Nat) (Option.none : Option Jvm.ClassFile.FieldType), Jvm.Cond.code ({ cls := "java/lang/Object", name := "<init>", desc := "()V" } : Jvm.MethodName) object_method_1_code (1 : Nat) (Option.none : Option Jvm.ClassFile.FieldType), Jvm.Cond.code ({ cls := "com/example/actions_to_pages/actionstopages/RequestPaths", name := "isUnder", desc := "(Ljava/lang/String;Ljava/lang/String;)Z" } : Jvm.MethodName) prog_1_method_5_code (2 : Nat) (Option.some Jvm.ClassFile.FieldType.boolean), Jvm.Cond.code ({ cls := "java/lang/String", name := "startsWith", desc := "(Ljava/lang/String;)Z" } : Jvm.MethodName) jdk_42_method_76_code (2 : Nat) (Option.some Jvm.ClassFile.FieldType.boolean), Jvm.Cond.code ({ cls := "java/lang/String", name := "startsWith", desc := "(Ljava/lang/String;I)Z" } : Jvm.MethodName) jdk_42_method_75_code (8 : Nat) (Option.some Jvm.ClassFile.FieldType.boolean), Jvm.Cond.code ({ cls := "java/lang/String", name := "length", desc := "()I" } : Jvm.MethodName) jdk_42_method_54_code (1 : Nat) (Option.some Jvm.ClassFile.FieldType.int), Jvm.Cond.code ({ cls := "java/lang/String", name := "coder", desc := "()B" } : Jvm.MethodName) jdk_42_method_152_code (1 : Nat) (Option.some Jvm.ClassFile.FieldType.byte), Jvm.Cond.code ({ cls := "jdk/internal/util/ArraysSupport", name := "mismatch", desc := "([BI[BII)I" } : Jvm.MethodName) jdk_48_method_14_code (8 : Nat) (Option.some Jvm.ClassFile.FieldType.int), Jvm.Cond.code ({ cls := "java/lang/String", name := "valueOf", desc := "(C)Ljava/lang/String;" } : Jvm.MethodName) jdk_42_method_139_code (1 : Nat) (Option.some (Jvm.ClassFile.FieldType.object "java/lang/String")), Jvm.Cond.code ({ cls := "java/lang/StringLatin1", name := "canEncode", desc := "(C)Z" } : Jvm.MethodName) jdk_43_method_3_code (1 : Nat) (Option.some Jvm.ClassFile.FieldType.boolean), Jvm.Cond.code ({ cls := "java/lang/StringLatin1", name := "toBytes", desc := "(C)[B" } : Jvm.MethodName) jdk_43_method_46_code (1 : Nat) (Option.some (Jvm.ClassFile.FieldType.array Jvm.ClassFile.FieldType.byte)), Jvm.Cond.code ({ cls := "java/lang/String", name := "<init>", desc := "([BB)V" } : Jvm.MethodName) jdk_42_method_151_code (3 : Nat) (Option.none : Option Jvm.ClassFile.FieldType), Jvm.Cond.code ({ cls := "java/lang/String", name := "endsWith", desc := "(Ljava/lang/String;)Z" } : Jvm.MethodName) jdk_42_method_77_code (2 : Nat) (Option.some Jvm.ClassFile.FieldType.boolean), Jvm.Cond.code ({ cls := "java/lang/String", name := "charAt", desc := "(I)C" } : Jvm.MethodName) jdk_42_method_56_code (2 : Nat) (Option.some Jvm.ClassFile.FieldType.char), Jvm.Cond.code ({ cls := "java/lang/String", name := "isLatin1", desc := "()Z" } : Jvm.MethodName) jdk_42_method_154_code (1 : Nat) (Option.some Jvm.ClassFile.FieldType.boolean), Jvm.Cond.code ({ cls := "java/lang/StringLatin1", name := "charAt", desc := "([BI)C" } : Jvm.MethodName) jdk_43_method_2_code (2 : Nat) (Option.some Jvm.ClassFile.FieldType.char), Jvm.Cond.code ({ cls := "java/lang/String", name := "checkIndex", desc := "(II)V" } : Jvm.MethodName) jdk_42_method_155_code (2 : Nat) (Option.none : Option Jvm.ClassFile.FieldType), Jvm.Cond.code ({ cls := "jdk/internal/util/Preconditions", name := "checkIndex", desc := "(IILjava/util/function/BiFunction;)I" } : Jvm.MethodName) jdk_41_method_11_code (3 : Nat) (Option.some Jvm.ClassFile.FieldType.int), Jvm.Cond.code ({ cls := "java/lang/StringUTF16", name := "compress", desc := "([CII)[B" } : Jvm.MethodName) jdk_52_method_16_code (6 : Nat) (Option.some (Jvm.ClassFile.FieldType.array Jvm.ClassFile.FieldType.byte)), Jvm.Cond.code ({ cls := "java/lang/StringUTF16", name := "compress", desc := "([CI[BII)I" } : Jvm.MethodName) jdk_52_method_21_code (7 : Nat) (Option.some Jvm.ClassFile.FieldType.int), Jvm.Cond.code ({ cls := "java/lang/StringUTF16", name := "coderFromArrayLen", desc := "([BI)B" } : Jvm.MethodName) jdk_52_method_15_code (2 : Nat) (Option.some Jvm.ClassFile.FieldType.byte)]
set_option maxRecDepth 65536 in
theorem codes_eq : words1.filter isCode = codes1 := rfl
theorem w_codes : ∀ c ∈ words1.filter isCode, c.before args0 about1 = true := by
  rw [codes_eq]
  intro c hc
  simp only [codes1, List.mem_cons, List.not_mem_nil, or_false] at hc
  rcases hc with rfl | rfl | rfl | rfl | rfl | rfl | rfl | rfl | rfl | rfl | rfl | rfl | rfl | rfl | rfl | rfl | rfl | rfl | rfl | rfl | rfl | rfl | rfl | rfl | rfl
  · exact w_c0
  · exact w_c1
  · exact w_c2
  · exact w_c3
  · exact w_c4
  · exact w_c5
  · exact w_c6
  · exact w_c7
  · exact w_c8
  · exact w_c9
  · exact w_c10
  · exact w_c11
  · exact w_c12
  · exact w_c13
  · exact w_c14
  · exact w_c15
  · exact w_c16
  · exact w_c17
  · exact w_c18
  · exact w_c19
  · exact w_c20
  · exact w_c21
  · exact w_c22
  · exact w_c23
  · exact w_c24
set_option maxRecDepth 65536 in
theorem w_t1 : (words1.take 24).all (fun c => isCode c || c.before args0 about1) = true := by decide +kernel
set_option maxRecDepth 65536 in
theorem w_t2 : ((words1.drop 24).take 24).all (fun c => isCode c || c.before args0 about1) = true := by decide +kernel
set_option maxRecDepth 65536 in
theorem w_t3 : (((words1.drop 24).drop 24).take 24).all (fun c => isCode c || c.before args0 about1) = true := by decide +kernel
set_option maxRecDepth 65536 in
theorem w_t4 : ((((words1.drop 24).drop 24).drop 24).take 24).all (fun c => isCode c || c.before args0 about1) = true := by decide +kernel
set_option maxRecDepth 65536 in
theorem w_t5 : ((((words1.drop 24).drop 24).drop 24).drop 24).all (fun c => isCode c || c.before args0 about1) = true := by decide +kernel
theorem w_tables : (allAtoms (Jvm.Cond.code x code maxLocals ret :: tables_1)).before args0 about1 = true := by
  rw [allAtoms_all]
  show words1.all (fun c => c.before args0 about1) = true
  refine all_split ?_ w_codes
  rw [← List.take_append_drop 24 words1, List.all_append, w_t1, ← List.take_append_drop 24 (words1.drop 24), List.all_append, w_t2, ← List.take_append_drop 24 ((words1.drop 24).drop 24), List.all_append, w_t3, ← List.take_append_drop 24 (((words1.drop 24).drop 24).drop 24), List.all_append, w_t4, w_t5]
  rfl
set_option maxRecDepth 65536 in
theorem w_rest : rest_1_c.before args0 about1 = true := by decide +kernel
set_option maxRecDepth 65536 in
theorem w_case : (Jvm.Cond.and given_1 narrow_1).before args0 about1 = true := by decide +kernel
set_option maxRecDepth 65536 in
theorem w_consts : constsHeld consts_1 about1 := Jvm.Lit.constsHeldB_iff.mp (by decide +kernel)
theorem w_applies : (headSpec (Jvm.Cond.code x code maxLocals ret :: tables_1) room_1).applies x e0.platform about1 = true :=
  (Spec.applies_iff w_frames).mpr ⟨w_running, w_runnable, w_alone, w_named, w_hears, w_ripe, w_room, w_tables⟩
theorem atStart : AtStart classFile x code maxLocals ret World_1 tables_1 room_1 Calls_1 rest_1 Pre_1 launch0 p0 e0 about1 theMethod args0 below0 :=
  ⟨lists_1, trivial, launch0.admits_env _ _ _, launch0.least_env, fairChoices_fair.cas, fairChoices_fair.clock, w_frames, w_args, w_heap, w_applies, ⟨w_consts, trivial⟩, w_rest, w_case⟩
end start1
theorem witness_1 : WitnessClaimed_1 := ⟨start1.p0, start1.e0, start1.about1, start1.theMethod, start1.args0, start1.below0, start1.atStart⟩
end Jvm.Pilot.@@N@@
