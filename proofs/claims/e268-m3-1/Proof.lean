import JvmDerived
import JvmDerived.Pilot.@@N@@Statement
import JvmDerived.Pilot.@@N@@Code
set_option linter.unusedVariables false
set_option linter.unusedSimpArgs false
namespace Jvm.Pilot.@@N@@
open Jvm Jvm.ClassFile Sem Op Lib Jvm.Free Jvm.Stand Jvm.LawKit Jvm.RoadKit Bundle Jvm.Pilot.@@N@@.Jvm.D

/-- from here the invocation ends, and what it leaves meets Q -/
def Go (p : Program) (e : Env) (below : List Frame) (s : State) (mc ms : Nat) (Q : Option Value → Heap → List Loc → Prop) (m : MethodId) (T : State) (pc : Nat) (Ls : Array Slot) (st : List Value) : Prop :=
  ∃ s₂ o, Steps p.tables e below (T.setTop (mkF m pc Ls st)) s₂ ∧ s₂.status = .running ∧ Ended s₂ below o ∧ ∃ v L, o = .returned v ∧ Q v s₂.heap L ∧ FrameEnd s o s₂ L mc ms
section Law
variable {p : Program} {l : Launch} {e : Env} {R : Room} {s : State} {m : MethodId} {args : Array Value} {below : List Frame} {meth : Method} {c : Code} {T T' : State} {locs : List Loc} {cells slots : Nat} {code : ByteArray} {Q : Option Value → Heap → List Loc → Prop} {mc ms : Nat} {pc pc' : Nat} {Ls Ls' : Array Slot} {st st' rest : List Value}
theorem Go.of (k : Go p e below s mc ms Q m T' pc' Ls' st') (h : ∀ t, Steps p.tables e below (T'.setTop (mkF m pc' Ls' st')) t → Steps p.tables e below (T.setTop (mkF m pc Ls st)) t) : Go p e below s mc ms Q m T pc Ls st := by
  obtain ⟨a, o, h1, h2⟩ := k
  exact ⟨a, o, h _ h1, h2⟩
def remI (x y : Int32) : Int32 := x - (x / y) * y
def remJ (x y : Int64) : Int64 := x - (x / y) * y
def i2bF (x : Int32) : Int32 := x.toInt8.toInt32
def i2cF (x : Int32) : Int32 := x.toUInt32.toUInt16.toUInt32.toInt32
def i2sF (x : Int32) : Int32 := x.toInt16.toInt32
def shlI (x y : Int32) : Int32 := x <<< (y &&& 31)
def shrI (x y : Int32) : Int32 := x >>> (y &&& 31)
def shlJ (x : Int64) (y : Int32) : Int64 := x <<< (y.toInt64 &&& 63)
def shrJ (x : Int64) (y : Int32) : Int64 := x >>> (y.toInt64 &&& 63)

theorem Go.iload (X : Stand p l e R s m args below meth c T locs cells slots) (hx : p.tables.exec = Jvm.exec) (hby : c.code = code) {k : Nat} {v : Int32} (hd : decode code pc = .ok (.iload k, 2)) (hpc : pc + 2 = pc') (hl : Ls[k]? = some (.val (.int v))) (h : Go p e below s mc ms Q m T pc' Ls (.int v :: st)) : Go p e below s mc ms Q m T pc Ls (st) := by
  subst hpc; exact h.of fun _ kk => XS.iload (g := mkF m pc Ls (st)) X.here hx rfl (hb hby hd) hl kk
theorem Go.iloadN (X : Stand p l e R s m args below meth c T locs cells slots) (hx : p.tables.exec = Jvm.exec) (hby : c.code = code) {k : Fin 4} {v : Int32} (hd : decode code pc = .ok (.iload_n k, 1)) (hpc : pc + 1 = pc') (hl : Ls[k.val]? = some (.val (.int v))) (h : Go p e below s mc ms Q m T pc' Ls (.int v :: st)) : Go p e below s mc ms Q m T pc Ls (st) := by
  subst hpc; exact h.of fun _ kk => XS.iloadN (g := mkF m pc Ls (st)) X.here hx rfl (hb hby hd) hl kk
theorem Go.lload (X : Stand p l e R s m args below meth c T locs cells slots) (hx : p.tables.exec = Jvm.exec) (hby : c.code = code) {k : Nat} {v : Int64} (hd : decode code pc = .ok (.lload k, 2)) (hpc : pc + 2 = pc') (hl : Ls[k]? = some (.val (.long v))) (h : Go p e below s mc ms Q m T pc' Ls (.long v :: st)) : Go p e below s mc ms Q m T pc Ls (st) := by
  subst hpc; exact h.of fun _ kk => XT.lload (g := mkF m pc Ls (st)) X.here hx rfl (hb hby hd) hl kk
theorem Go.lloadN (X : Stand p l e R s m args below meth c T locs cells slots) (hx : p.tables.exec = Jvm.exec) (hby : c.code = code) {k : Fin 4} {v : Int64} (hd : decode code pc = .ok (.lload_n k, 1)) (hpc : pc + 1 = pc') (hl : Ls[k.val]? = some (.val (.long v))) (h : Go p e below s mc ms Q m T pc' Ls (.long v :: st)) : Go p e below s mc ms Q m T pc Ls (st) := by
  subst hpc; exact h.of fun _ kk => XT.lloadN (g := mkF m pc Ls (st)) X.here hx rfl (hb hby hd) hl kk
theorem Go.aload (X : Stand p l e R s m args below meth c T locs cells slots) (hx : p.tables.exec = Jvm.exec) (hby : c.code = code) {k : Nat} {v : Value} (hd : decode code pc = .ok (.aload k, 2)) (hpc : pc + 2 = pc') (hl : Ls[k]? = some (.val v)) (hv : v.isRef = true) (h : Go p e below s mc ms Q m T pc' Ls (v :: st)) : Go p e below s mc ms Q m T pc Ls (st) := by
  subst hpc; exact h.of fun _ kk => XS.aload (g := mkF m pc Ls (st)) X.here hx rfl (hb hby hd) hl hv kk
theorem Go.aloadN (X : Stand p l e R s m args below meth c T locs cells slots) (hx : p.tables.exec = Jvm.exec) (hby : c.code = code) {k : Fin 4} {v : Value} (hd : decode code pc = .ok (.aload_n k, 1)) (hpc : pc + 1 = pc') (hl : Ls[k.val]? = some (.val v)) (hv : v.isRef = true) (h : Go p e below s mc ms Q m T pc' Ls (v :: st)) : Go p e below s mc ms Q m T pc Ls (st) := by
  subst hpc; exact h.of fun _ kk => XS.aloadN (g := mkF m pc Ls (st)) X.here hx rfl (hb hby hd) hl hv kk
theorem Go.istore (X : Stand p l e R s m args below meth c T locs cells slots) (hx : p.tables.exec = Jvm.exec) (hby : c.code = code) {k : Nat} {v : Int32} (hd : decode code pc = .ok (.istore k, 2)) (hpc : pc + 2 = pc') (hl : storeLocals Ls k (.int v) = some Ls') (h : Go p e below s mc ms Q m T pc' Ls' (st)) : Go p e below s mc ms Q m T pc Ls (.int v :: st) := by
  subst hpc; exact h.of fun _ kk => XS.istore (g := mkF m pc Ls (.int v :: st)) X.here hx rfl (hb hby hd) rfl hl kk
theorem Go.istoreN (X : Stand p l e R s m args below meth c T locs cells slots) (hx : p.tables.exec = Jvm.exec) (hby : c.code = code) {k : Fin 4} {v : Int32} (hd : decode code pc = .ok (.istore_n k, 1)) (hpc : pc + 1 = pc') (hl : storeLocals Ls k.val (.int v) = some Ls') (h : Go p e below s mc ms Q m T pc' Ls' (st)) : Go p e below s mc ms Q m T pc Ls (.int v :: st) := by
  subst hpc; exact h.of fun _ kk => XS.istoreN (g := mkF m pc Ls (.int v :: st)) X.here hx rfl (hb hby hd) rfl hl kk
theorem Go.lstore (X : Stand p l e R s m args below meth c T locs cells slots) (hx : p.tables.exec = Jvm.exec) (hby : c.code = code) {k : Nat} {v : Int64} (hd : decode code pc = .ok (.lstore k, 2)) (hpc : pc + 2 = pc') (hl : storeLocals Ls k (.long v) = some Ls') (h : Go p e below s mc ms Q m T pc' Ls' (st)) : Go p e below s mc ms Q m T pc Ls (.long v :: st) := by
  subst hpc; exact h.of fun _ kk => XT.lstore (g := mkF m pc Ls (.long v :: st)) X.here hx rfl (hb hby hd) rfl hl kk
theorem Go.lstoreN (X : Stand p l e R s m args below meth c T locs cells slots) (hx : p.tables.exec = Jvm.exec) (hby : c.code = code) {k : Fin 4} {v : Int64} (hd : decode code pc = .ok (.lstore_n k, 1)) (hpc : pc + 1 = pc') (hl : storeLocals Ls k.val (.long v) = some Ls') (h : Go p e below s mc ms Q m T pc' Ls' (st)) : Go p e below s mc ms Q m T pc Ls (.long v :: st) := by
  subst hpc; exact h.of fun _ kk => XT.lstoreN (g := mkF m pc Ls (.long v :: st)) X.here hx rfl (hb hby hd) rfl hl kk
theorem Go.astore (X : Stand p l e R s m args below meth c T locs cells slots) (hx : p.tables.exec = Jvm.exec) (hby : c.code = code) {k : Nat} {v : Value} (hd : decode code pc = .ok (.astore k, 2)) (hpc : pc + 2 = pc') (hv : v.isRef = true) (hl : storeLocals Ls k v = some Ls') (h : Go p e below s mc ms Q m T pc' Ls' (st)) : Go p e below s mc ms Q m T pc Ls (v :: st) := by
  subst hpc; exact h.of fun _ kk => XS.astore (g := mkF m pc Ls (v :: st)) X.here hx rfl (hb hby hd) rfl hv hl kk
theorem Go.astoreN (X : Stand p l e R s m args below meth c T locs cells slots) (hx : p.tables.exec = Jvm.exec) (hby : c.code = code) {k : Fin 4} {v : Value} (hd : decode code pc = .ok (.astore_n k, 1)) (hpc : pc + 1 = pc') (hv : v.isRef = true) (hl : storeLocals Ls k.val v = some Ls') (h : Go p e below s mc ms Q m T pc' Ls' (st)) : Go p e below s mc ms Q m T pc Ls (v :: st) := by
  subst hpc; exact h.of fun _ kk => XS.astoreN (g := mkF m pc Ls (v :: st)) X.here hx rfl (hb hby hd) rfl hv hl kk
theorem Go.iconst (X : Stand p l e R s m args below meth c T locs cells slots) (hx : p.tables.exec = Jvm.exec) (hby : c.code = code) {i : Int} {v : Int32} (hd : decode code pc = .ok (.iconst i, 1)) (hpc : pc + 1 = pc') (hv : Int32.ofInt i = v) (h : Go p e below s mc ms Q m T pc' Ls (.int v :: st)) : Go p e below s mc ms Q m T pc Ls (st) := by
  subst hpc; exact h.of fun _ kk => XT.iconstV (g := mkF m pc Ls (st)) X.here hx rfl v (hb hby hd) hv kk
theorem Go.bipush (X : Stand p l e R s m args below meth c T locs cells slots) (hx : p.tables.exec = Jvm.exec) (hby : c.code = code) {i : Int} {v : Int32} (hd : decode code pc = .ok (.bipush i, 2)) (hpc : pc + 2 = pc') (hv : (Int8.ofInt i).toInt32 = v) (h : Go p e below s mc ms Q m T pc' Ls (.int v :: st)) : Go p e below s mc ms Q m T pc Ls (st) := by
  subst hpc; exact h.of fun _ kk => XT.bipushV (g := mkF m pc Ls (st)) X.here hx rfl v (hb hby hd) hv kk
theorem Go.sipush (X : Stand p l e R s m args below meth c T locs cells slots) (hx : p.tables.exec = Jvm.exec) (hby : c.code = code) {i : Int} {v : Int32} (hd : decode code pc = .ok (.sipush i, 3)) (hpc : pc + 3 = pc') (hv : (Int16.ofInt i).toInt32 = v) (h : Go p e below s mc ms Q m T pc' Ls (.int v :: st)) : Go p e below s mc ms Q m T pc Ls (st) := by
  subst hpc; exact h.of fun _ kk => XT.sipushV (g := mkF m pc Ls (st)) X.here hx rfl v (hb hby hd) hv kk
theorem Go.lconst (X : Stand p l e R s m args below meth c T locs cells slots) (hx : p.tables.exec = Jvm.exec) (hby : c.code = code) {k : Fin 2} {v : Int64} (hd : decode code pc = .ok (.lconst k, 1)) (hpc : pc + 1 = pc') (hv : Int64.ofNat k = v) (h : Go p e below s mc ms Q m T pc' Ls (.long v :: st)) : Go p e below s mc ms Q m T pc Ls (st) := by
  subst hpc; exact h.of fun _ kk => XT.lconstV (g := mkF m pc Ls (st)) X.here hx rfl v (hb hby hd) hv kk
theorem Go.aconstNull (X : Stand p l e R s m args below meth c T locs cells slots) (hx : p.tables.exec = Jvm.exec) (hby : c.code = code) (hd : decode code pc = .ok (.aconst_null, 1)) (hpc : pc + 1 = pc') (h : Go p e below s mc ms Q m T pc' Ls (.null :: st)) : Go p e below s mc ms Q m T pc Ls (st) := by
  subst hpc; exact h.of fun _ kk => XS.aconstNull (g := mkF m pc Ls (st)) X.here hx rfl (hb hby hd) kk
theorem Go.ldcI (X : Stand p l e R s m args below meth c T locs cells slots) (hx : p.tables.exec = Jvm.exec) (hby : c.code = code) {Z : State} {a0 : Array Value} (hZ : Z.Warmed39 s.vm) {own : String} {k : Nat} {v : Int32} (hown : s.vm.findClass own = some m.cls) (w : (Cond.constant own k v).before a0 Z = true) (hd : decode code pc = .ok (.ldc k, 2)) (hpc : pc + 2 = pc') (h : Go p e below s mc ms Q m T pc' Ls (.int v :: st)) : Go p e below s mc ms Q m T pc Ls (st) := by
  subst hpc; exact h.of fun _ kk => Stand.ldcI (g := mkF m pc Ls (st)) X hx hown (mvT hZ w) rfl (hb hby hd) kk
theorem Go.ldcJ (X : Stand p l e R s m args below meth c T locs cells slots) (hx : p.tables.exec = Jvm.exec) (hby : c.code = code) {Z : State} {a0 : Array Value} (hZ : Z.Warmed39 s.vm) {own : String} {k : Nat} {v : Int64} (hown : s.vm.findClass own = some m.cls) (w : (Cond.constantLong own k v).before a0 Z = true) (hd : decode code pc = .ok (.ldc2_w k, 3)) (hpc : pc + 3 = pc') (h : Go p e below s mc ms Q m T pc' Ls (.long v :: st)) : Go p e below s mc ms Q m T pc Ls (st) := by
  subst hpc; exact h.of fun _ kk => Stand.ldc2J (g := mkF m pc Ls (st)) X hx hown (mvT hZ w) rfl (hb hby hd) kk
theorem Go.iadd (X : Stand p l e R s m args below meth c T locs cells slots) (hx : p.tables.exec = Jvm.exec) (hby : c.code = code) {x y : Int32} (hd : decode code pc = .ok (.iadd, 1)) (hpc : pc + 1 = pc') (h : Go p e below s mc ms Q m T pc' Ls (.int (x + y) :: st)) : Go p e below s mc ms Q m T pc Ls (.int y :: .int x :: st) := by
  subst hpc; exact h.of fun _ kk => XS.iadd (g := mkF m pc Ls (.int y :: .int x :: st)) X.here hx rfl (hb hby hd) rfl kk
theorem Go.isub (X : Stand p l e R s m args below meth c T locs cells slots) (hx : p.tables.exec = Jvm.exec) (hby : c.code = code) {x y : Int32} (hd : decode code pc = .ok (.isub, 1)) (hpc : pc + 1 = pc') (h : Go p e below s mc ms Q m T pc' Ls (.int (x - y) :: st)) : Go p e below s mc ms Q m T pc Ls (.int y :: .int x :: st) := by
  subst hpc; exact h.of fun _ kk => XS.isub (g := mkF m pc Ls (.int y :: .int x :: st)) X.here hx rfl (hb hby hd) rfl kk
theorem Go.imul (X : Stand p l e R s m args below meth c T locs cells slots) (hx : p.tables.exec = Jvm.exec) (hby : c.code = code) {x y : Int32} (hd : decode code pc = .ok (.imul, 1)) (hpc : pc + 1 = pc') (h : Go p e below s mc ms Q m T pc' Ls (.int (x * y) :: st)) : Go p e below s mc ms Q m T pc Ls (.int y :: .int x :: st) := by
  subst hpc; exact h.of fun _ kk => XS.imul (g := mkF m pc Ls (.int y :: .int x :: st)) X.here hx rfl (hb hby hd) rfl kk
theorem Go.iand (X : Stand p l e R s m args below meth c T locs cells slots) (hx : p.tables.exec = Jvm.exec) (hby : c.code = code) {x y : Int32} (hd : decode code pc = .ok (.iand, 1)) (hpc : pc + 1 = pc') (h : Go p e below s mc ms Q m T pc' Ls (.int (x &&& y) :: st)) : Go p e below s mc ms Q m T pc Ls (.int y :: .int x :: st) := by
  subst hpc; exact h.of fun _ kk => XS.iand (g := mkF m pc Ls (.int y :: .int x :: st)) X.here hx rfl (hb hby hd) rfl kk
theorem Go.ior (X : Stand p l e R s m args below meth c T locs cells slots) (hx : p.tables.exec = Jvm.exec) (hby : c.code = code) {x y : Int32} (hd : decode code pc = .ok (.ior, 1)) (hpc : pc + 1 = pc') (h : Go p e below s mc ms Q m T pc' Ls (.int (x ||| y) :: st)) : Go p e below s mc ms Q m T pc Ls (.int y :: .int x :: st) := by
  subst hpc; exact h.of fun _ kk => XT.ior (g := mkF m pc Ls (.int y :: .int x :: st)) X.here hx rfl (hb hby hd) rfl kk
theorem Go.ixor (X : Stand p l e R s m args below meth c T locs cells slots) (hx : p.tables.exec = Jvm.exec) (hby : c.code = code) {x y : Int32} (hd : decode code pc = .ok (.ixor, 1)) (hpc : pc + 1 = pc') (h : Go p e below s mc ms Q m T pc' Ls (.int (x ^^^ y) :: st)) : Go p e below s mc ms Q m T pc Ls (.int y :: .int x :: st) := by
  subst hpc; exact h.of fun _ kk => XT.ixor (g := mkF m pc Ls (.int y :: .int x :: st)) X.here hx rfl (hb hby hd) rfl kk
theorem Go.ishl (X : Stand p l e R s m args below meth c T locs cells slots) (hx : p.tables.exec = Jvm.exec) (hby : c.code = code) {x y : Int32} (hd : decode code pc = .ok (.ishl, 1)) (hpc : pc + 1 = pc') (h : Go p e below s mc ms Q m T pc' Ls (.int (shlI x y) :: st)) : Go p e below s mc ms Q m T pc Ls (.int y :: .int x :: st) := by
  subst hpc; exact h.of fun _ kk => XT.ishl (g := mkF m pc Ls (.int y :: .int x :: st)) X.here hx rfl (hb hby hd) rfl kk
theorem Go.ishr (X : Stand p l e R s m args below meth c T locs cells slots) (hx : p.tables.exec = Jvm.exec) (hby : c.code = code) {x y : Int32} (hd : decode code pc = .ok (.ishr, 1)) (hpc : pc + 1 = pc') (h : Go p e below s mc ms Q m T pc' Ls (.int (shrI x y) :: st)) : Go p e below s mc ms Q m T pc Ls (.int y :: .int x :: st) := by
  subst hpc; exact h.of fun _ kk => XT.ishr (g := mkF m pc Ls (.int y :: .int x :: st)) X.here hx rfl (hb hby hd) rfl kk
theorem Go.iushr (X : Stand p l e R s m args below meth c T locs cells slots) (hx : p.tables.exec = Jvm.exec) (hby : c.code = code) {x y : Int32} (hd : decode code pc = .ok (.iushr, 1)) (hpc : pc + 1 = pc') (h : Go p e below s mc ms Q m T pc' Ls (.int (XT.ushr x y) :: st)) : Go p e below s mc ms Q m T pc Ls (.int y :: .int x :: st) := by
  subst hpc; exact h.of fun _ kk => XT.iushr (g := mkF m pc Ls (.int y :: .int x :: st)) X.here hx rfl (hb hby hd) rfl kk
theorem Go.idiv (X : Stand p l e R s m args below meth c T locs cells slots) (hx : p.tables.exec = Jvm.exec) (hby : c.code = code) {x y : Int32} (hd : decode code pc = .ok (.idiv, 1)) (hpc : pc + 1 = pc') (hy : y ≠ 0) (h : Go p e below s mc ms Q m T pc' Ls (.int (x / y) :: st)) : Go p e below s mc ms Q m T pc Ls (.int y :: .int x :: st) := by
  subst hpc; exact h.of fun _ kk => XS.idiv (g := mkF m pc Ls (.int y :: .int x :: st)) X.here hx rfl (hb hby hd) rfl hy kk
theorem Go.irem (X : Stand p l e R s m args below meth c T locs cells slots) (hx : p.tables.exec = Jvm.exec) (hby : c.code = code) {x y : Int32} (hd : decode code pc = .ok (.irem, 1)) (hpc : pc + 1 = pc') (hy : y ≠ 0) (h : Go p e below s mc ms Q m T pc' Ls (.int (remI x y) :: st)) : Go p e below s mc ms Q m T pc Ls (.int y :: .int x :: st) := by
  subst hpc; exact h.of fun _ kk => XS.irem (g := mkF m pc Ls (.int y :: .int x :: st)) X.here hx rfl (hb hby hd) rfl hy kk
theorem Go.ladd (X : Stand p l e R s m args below meth c T locs cells slots) (hx : p.tables.exec = Jvm.exec) (hby : c.code = code) {x y : Int64} (hd : decode code pc = .ok (.ladd, 1)) (hpc : pc + 1 = pc') (h : Go p e below s mc ms Q m T pc' Ls (.long (x + y) :: st)) : Go p e below s mc ms Q m T pc Ls (.long y :: .long x :: st) := by
  subst hpc; exact h.of fun _ kk => XT.ladd (g := mkF m pc Ls (.long y :: .long x :: st)) X.here hx rfl (hb hby hd) rfl kk
theorem Go.lsub (X : Stand p l e R s m args below meth c T locs cells slots) (hx : p.tables.exec = Jvm.exec) (hby : c.code = code) {x y : Int64} (hd : decode code pc = .ok (.lsub, 1)) (hpc : pc + 1 = pc') (h : Go p e below s mc ms Q m T pc' Ls (.long (x - y) :: st)) : Go p e below s mc ms Q m T pc Ls (.long y :: .long x :: st) := by
  subst hpc; exact h.of fun _ kk => XT.lsub (g := mkF m pc Ls (.long y :: .long x :: st)) X.here hx rfl (hb hby hd) rfl kk
theorem Go.lmul (X : Stand p l e R s m args below meth c T locs cells slots) (hx : p.tables.exec = Jvm.exec) (hby : c.code = code) {x y : Int64} (hd : decode code pc = .ok (.lmul, 1)) (hpc : pc + 1 = pc') (h : Go p e below s mc ms Q m T pc' Ls (.long (x * y) :: st)) : Go p e below s mc ms Q m T pc Ls (.long y :: .long x :: st) := by
  subst hpc; exact h.of fun _ kk => XT.lmul (g := mkF m pc Ls (.long y :: .long x :: st)) X.here hx rfl (hb hby hd) rfl kk
theorem Go.land (X : Stand p l e R s m args below meth c T locs cells slots) (hx : p.tables.exec = Jvm.exec) (hby : c.code = code) {x y : Int64} (hd : decode code pc = .ok (.land, 1)) (hpc : pc + 1 = pc') (h : Go p e below s mc ms Q m T pc' Ls (.long (x &&& y) :: st)) : Go p e below s mc ms Q m T pc Ls (.long y :: .long x :: st) := by
  subst hpc; exact h.of fun _ kk => XT.land (g := mkF m pc Ls (.long y :: .long x :: st)) X.here hx rfl (hb hby hd) rfl kk
theorem Go.lor (X : Stand p l e R s m args below meth c T locs cells slots) (hx : p.tables.exec = Jvm.exec) (hby : c.code = code) {x y : Int64} (hd : decode code pc = .ok (.lor, 1)) (hpc : pc + 1 = pc') (h : Go p e below s mc ms Q m T pc' Ls (.long (x ||| y) :: st)) : Go p e below s mc ms Q m T pc Ls (.long y :: .long x :: st) := by
  subst hpc; exact h.of fun _ kk => XT.lor (g := mkF m pc Ls (.long y :: .long x :: st)) X.here hx rfl (hb hby hd) rfl kk
theorem Go.lxor (X : Stand p l e R s m args below meth c T locs cells slots) (hx : p.tables.exec = Jvm.exec) (hby : c.code = code) {x y : Int64} (hd : decode code pc = .ok (.lxor, 1)) (hpc : pc + 1 = pc') (h : Go p e below s mc ms Q m T pc' Ls (.long (x ^^^ y) :: st)) : Go p e below s mc ms Q m T pc Ls (.long y :: .long x :: st) := by
  subst hpc; exact h.of fun _ kk => XT.lxor (g := mkF m pc Ls (.long y :: .long x :: st)) X.here hx rfl (hb hby hd) rfl kk
theorem Go.ldiv (X : Stand p l e R s m args below meth c T locs cells slots) (hx : p.tables.exec = Jvm.exec) (hby : c.code = code) {x y : Int64} (hd : decode code pc = .ok (.ldiv, 1)) (hpc : pc + 1 = pc') (hy : y ≠ 0) (h : Go p e below s mc ms Q m T pc' Ls (.long (x / y) :: st)) : Go p e below s mc ms Q m T pc Ls (.long y :: .long x :: st) := by
  subst hpc; exact h.of fun _ kk => XT.ldiv (g := mkF m pc Ls (.long y :: .long x :: st)) X.here hx rfl (hb hby hd) rfl hy kk
theorem Go.lrem (X : Stand p l e R s m args below meth c T locs cells slots) (hx : p.tables.exec = Jvm.exec) (hby : c.code = code) {x y : Int64} (hd : decode code pc = .ok (.lrem, 1)) (hpc : pc + 1 = pc') (hy : y ≠ 0) (h : Go p e below s mc ms Q m T pc' Ls (.long (remJ x y) :: st)) : Go p e below s mc ms Q m T pc Ls (.long y :: .long x :: st) := by
  subst hpc; exact h.of fun _ kk => XT.lrem (g := mkF m pc Ls (.long y :: .long x :: st)) X.here hx rfl (hb hby hd) rfl hy kk
theorem Go.lushr (X : Stand p l e R s m args below meth c T locs cells slots) (hx : p.tables.exec = Jvm.exec) (hby : c.code = code) {x : Int64} {y : Int32} (hd : decode code pc = .ok (.lushr, 1)) (hpc : pc + 1 = pc') (h : Go p e below s mc ms Q m T pc' Ls (.long (XT.ushrL x y) :: st)) : Go p e below s mc ms Q m T pc Ls (.int y :: .long x :: st) := by
  subst hpc; exact h.of fun _ kk => XT.lushr (g := mkF m pc Ls (.int y :: .long x :: st)) X.here hx rfl (hb hby hd) rfl kk
theorem Go.lshl (X : Stand p l e R s m args below meth c T locs cells slots) (hx : p.tables.exec = Jvm.exec) (hby : c.code = code) {x : Int64} {y : Int32} {z : Int64} (hd : decode code pc = .ok (.lshl, 1)) (hpc : pc + 1 = pc') (hz : x <<< (y.toInt64 &&& 63) = z) (h : Go p e below s mc ms Q m T pc' Ls (.long z :: st)) : Go p e below s mc ms Q m T pc Ls (.int y :: .long x :: st) := by
  subst hpc hz; exact h.of fun _ kk => XT.lshl (g := mkF m pc Ls (.int y :: .long x :: st)) X.here hx rfl (hb hby hd) rfl kk
theorem Go.lshr (X : Stand p l e R s m args below meth c T locs cells slots) (hx : p.tables.exec = Jvm.exec) (hby : c.code = code) {x : Int64} {y : Int32} {z : Int64} (hd : decode code pc = .ok (.lshr, 1)) (hpc : pc + 1 = pc') (hz : x >>> (y.toInt64 &&& 63) = z) (h : Go p e below s mc ms Q m T pc' Ls (.long z :: st)) : Go p e below s mc ms Q m T pc Ls (.int y :: .long x :: st) := by
  subst hpc hz; exact h.of fun _ kk => XT.lshr (g := mkF m pc Ls (.int y :: .long x :: st)) X.here hx rfl (hb hby hd) rfl kk
theorem Go.lcmp (X : Stand p l e R s m args below meth c T locs cells slots) (hx : p.tables.exec = Jvm.exec) (hby : c.code = code) {x y : Int64} (hd : decode code pc = .ok (.lcmp, 1)) (hpc : pc + 1 = pc') (h : Go p e below s mc ms Q m T pc' Ls (.int (XT.cmpL x y) :: st)) : Go p e below s mc ms Q m T pc Ls (.long y :: .long x :: st) := by
  subst hpc; exact h.of fun _ kk => XT.lcmp (g := mkF m pc Ls (.long y :: .long x :: st)) X.here hx rfl (hb hby hd) rfl kk
theorem Go.ineg (X : Stand p l e R s m args below meth c T locs cells slots) (hx : p.tables.exec = Jvm.exec) (hby : c.code = code) {x : Int32} (hd : decode code pc = .ok (.ineg, 1)) (hpc : pc + 1 = pc') (h : Go p e below s mc ms Q m T pc' Ls (.int (-x) :: st)) : Go p e below s mc ms Q m T pc Ls (.int x :: st) := by
  subst hpc; exact h.of fun _ kk => XS.ineg (g := mkF m pc Ls (.int x :: st)) X.here hx rfl (hb hby hd) rfl kk
theorem Go.i2l (X : Stand p l e R s m args below meth c T locs cells slots) (hx : p.tables.exec = Jvm.exec) (hby : c.code = code) {x : Int32} (hd : decode code pc = .ok (.i2l, 1)) (hpc : pc + 1 = pc') (h : Go p e below s mc ms Q m T pc' Ls (.long (x.toInt64) :: st)) : Go p e below s mc ms Q m T pc Ls (.int x :: st) := by
  subst hpc; exact h.of fun _ kk => XT.i2l (g := mkF m pc Ls (.int x :: st)) X.here hx rfl (hb hby hd) rfl kk
theorem Go.l2i (X : Stand p l e R s m args below meth c T locs cells slots) (hx : p.tables.exec = Jvm.exec) (hby : c.code = code) {x : Int64} (hd : decode code pc = .ok (.l2i, 1)) (hpc : pc + 1 = pc') (h : Go p e below s mc ms Q m T pc' Ls (.int (x.toInt32) :: st)) : Go p e below s mc ms Q m T pc Ls (.long x :: st) := by
  subst hpc; exact h.of fun _ kk => XT.l2i (g := mkF m pc Ls (.long x :: st)) X.here hx rfl (hb hby hd) rfl kk
theorem Go.i2b (X : Stand p l e R s m args below meth c T locs cells slots) (hx : p.tables.exec = Jvm.exec) (hby : c.code = code) {x : Int32} (hd : decode code pc = .ok (.i2b, 1)) (hpc : pc + 1 = pc') (h : Go p e below s mc ms Q m T pc' Ls (.int (i2bF x) :: st)) : Go p e below s mc ms Q m T pc Ls (.int x :: st) := by
  subst hpc; exact h.of fun _ kk => XT.i2b (g := mkF m pc Ls (.int x :: st)) X.here hx rfl (hb hby hd) rfl kk
theorem Go.i2c (X : Stand p l e R s m args below meth c T locs cells slots) (hx : p.tables.exec = Jvm.exec) (hby : c.code = code) {x : Int32} (hd : decode code pc = .ok (.i2c, 1)) (hpc : pc + 1 = pc') (h : Go p e below s mc ms Q m T pc' Ls (.int (i2cF x) :: st)) : Go p e below s mc ms Q m T pc Ls (.int x :: st) := by
  subst hpc; exact h.of fun _ kk => XT.i2c (g := mkF m pc Ls (.int x :: st)) X.here hx rfl (hb hby hd) rfl kk
theorem Go.i2s (X : Stand p l e R s m args below meth c T locs cells slots) (hx : p.tables.exec = Jvm.exec) (hby : c.code = code) {x : Int32} (hd : decode code pc = .ok (.i2s, 1)) (hpc : pc + 1 = pc') (h : Go p e below s mc ms Q m T pc' Ls (.int (i2sF x) :: st)) : Go p e below s mc ms Q m T pc Ls (.int x :: st) := by
  subst hpc; exact h.of fun _ kk => XT.i2s (g := mkF m pc Ls (.int x :: st)) X.here hx rfl (hb hby hd) rfl kk
theorem Go.iinc (X : Stand p l e R s m args below meth c T locs cells slots) (hx : p.tables.exec = Jvm.exec) (hby : c.code = code) {k : Nat} {i : Int} {x v : Int32} (hd : decode code pc = .ok (.iinc k i, 3)) (hpc : pc + 3 = pc') (hv : Int32.ofInt i = v) (hl : Ls[k]? = some (.val (.int x))) (hl' : storeLocals Ls k (.int (x + v)) = some Ls') (h : Go p e below s mc ms Q m T pc' Ls' (st)) : Go p e below s mc ms Q m T pc Ls (st) := by
  subst hpc; exact h.of fun _ kk => XT.iincV (g := mkF m pc Ls (st)) X.here hx rfl v (hb hby hd) hv hl hl' kk
theorem Go.dup (X : Stand p l e R s m args below meth c T locs cells slots) (hx : p.tables.exec = Jvm.exec) (hby : c.code = code) {v : Value} (hd : decode code pc = .ok (.dup, 1)) (hpc : pc + 1 = pc') (hv : v.category = 1) (h : Go p e below s mc ms Q m T pc' Ls (v :: v :: st)) : Go p e below s mc ms Q m T pc Ls (v :: st) := by
  subst hpc; exact h.of fun _ kk => XS.dup (g := mkF m pc Ls (v :: st)) X.here hx rfl (hb hby hd) rfl hv kk
theorem Go.pop (X : Stand p l e R s m args below meth c T locs cells slots) (hx : p.tables.exec = Jvm.exec) (hby : c.code = code) {v : Value} (hd : decode code pc = .ok (.pop, 1)) (hpc : pc + 1 = pc') (hv : v.category = 1) (h : Go p e below s mc ms Q m T pc' Ls (st)) : Go p e below s mc ms Q m T pc Ls (v :: st) := by
  subst hpc; exact h.of fun _ kk => XT.pop (g := mkF m pc Ls (v :: st)) X.here hx rfl (hb hby hd) rfl hv kk
theorem Go.goto (X : Stand p l e R s m args below meth c T locs cells slots) (hx : p.tables.exec = Jvm.exec) (hby : c.code = code) {o : Int} (hd : decode code pc = .ok (.goto o, 3)) (ho : 0 ≤ (pc : Int) + o) (hp : ((pc : Int) + o).toNat = pc') (h : Go p e below s mc ms Q m T pc' Ls st) : Go p e below s mc ms Q m T pc Ls st :=
  h.of fun _ kk => XS.goto (g := mkF m pc Ls st) X.here hx rfl (pc0 := pc) rfl (hb hby hd) ho hp kk
theorem Go.icmp_eq (X : Stand p l e R s m args below meth c T locs cells slots) (hx : p.tables.exec = Jvm.exec) (hby : c.code = code) {pcN : Nat} {x y : Int32} {o : Int} (hd : decode code pc = .ok (.if_icmp .eq o, 3)) (ho : 0 ≤ (pc : Int) + o) (hp : ((pc : Int) + o).toNat = pc') (hn : pc + 3 = pcN) (yes : x = y → Go p e below s mc ms Q m T pc' Ls st) (no : ¬ x = y → Go p e below s mc ms Q m T pcN Ls st) : Go p e below s mc ms Q m T pc Ls (.int y :: .int x :: st) := by
  subst hn
  by_cases q : x = y
  · exact (yes q).of fun _ kk => XS.icmpYes (g := mkF m pc Ls (.int y :: .int x :: st)) X.here hx rfl (pc0 := pc) rfl (hb hby hd) rfl (XT.ii_eq_t q) ho hp kk
  · exact (no q).of fun _ kk => XS.icmpNo (g := mkF m pc Ls (.int y :: .int x :: st)) X.here hx rfl (hb hby hd) rfl (XT.ii_eq_f q) kk
theorem Go.icmp_ne (X : Stand p l e R s m args below meth c T locs cells slots) (hx : p.tables.exec = Jvm.exec) (hby : c.code = code) {pcN : Nat} {x y : Int32} {o : Int} (hd : decode code pc = .ok (.if_icmp .ne o, 3)) (ho : 0 ≤ (pc : Int) + o) (hp : ((pc : Int) + o).toNat = pc') (hn : pc + 3 = pcN) (yes : ¬ x = y → Go p e below s mc ms Q m T pc' Ls st) (no : x = y → Go p e below s mc ms Q m T pcN Ls st) : Go p e below s mc ms Q m T pc Ls (.int y :: .int x :: st) := by
  subst hn
  by_cases q : x = y
  · exact (no q).of fun _ kk => XS.icmpNo (g := mkF m pc Ls (.int y :: .int x :: st)) X.here hx rfl (hb hby hd) rfl (XT.ii_ne_f q) kk
  · exact (yes q).of fun _ kk => XS.icmpYes (g := mkF m pc Ls (.int y :: .int x :: st)) X.here hx rfl (pc0 := pc) rfl (hb hby hd) rfl (XT.ii_ne_t q) ho hp kk
theorem Go.icmp_lt (X : Stand p l e R s m args below meth c T locs cells slots) (hx : p.tables.exec = Jvm.exec) (hby : c.code = code) {pcN : Nat} {x y : Int32} {o : Int} (hd : decode code pc = .ok (.if_icmp .lt o, 3)) (ho : 0 ≤ (pc : Int) + o) (hp : ((pc : Int) + o).toNat = pc') (hn : pc + 3 = pcN) (yes : x < y → Go p e below s mc ms Q m T pc' Ls st) (no : ¬ x < y → Go p e below s mc ms Q m T pcN Ls st) : Go p e below s mc ms Q m T pc Ls (.int y :: .int x :: st) := by
  subst hn
  by_cases q : x < y
  · exact (yes q).of fun _ kk => XS.icmpYes (g := mkF m pc Ls (.int y :: .int x :: st)) X.here hx rfl (pc0 := pc) rfl (hb hby hd) rfl (XT.ii_lt_t q) ho hp kk
  · exact (no q).of fun _ kk => XS.icmpNo (g := mkF m pc Ls (.int y :: .int x :: st)) X.here hx rfl (hb hby hd) rfl (XT.ii_lt_f q) kk
theorem Go.icmp_ge (X : Stand p l e R s m args below meth c T locs cells slots) (hx : p.tables.exec = Jvm.exec) (hby : c.code = code) {pcN : Nat} {x y : Int32} {o : Int} (hd : decode code pc = .ok (.if_icmp .ge o, 3)) (ho : 0 ≤ (pc : Int) + o) (hp : ((pc : Int) + o).toNat = pc') (hn : pc + 3 = pcN) (yes : ¬ x < y → Go p e below s mc ms Q m T pc' Ls st) (no : x < y → Go p e below s mc ms Q m T pcN Ls st) : Go p e below s mc ms Q m T pc Ls (.int y :: .int x :: st) := by
  subst hn
  by_cases q : x < y
  · exact (no q).of fun _ kk => XS.icmpNo (g := mkF m pc Ls (.int y :: .int x :: st)) X.here hx rfl (hb hby hd) rfl (XT.ii_ge_f q) kk
  · exact (yes q).of fun _ kk => XS.icmpYes (g := mkF m pc Ls (.int y :: .int x :: st)) X.here hx rfl (pc0 := pc) rfl (hb hby hd) rfl (XT.ii_ge_t q) ho hp kk
theorem Go.icmp_gt (X : Stand p l e R s m args below meth c T locs cells slots) (hx : p.tables.exec = Jvm.exec) (hby : c.code = code) {pcN : Nat} {x y : Int32} {o : Int} (hd : decode code pc = .ok (.if_icmp .gt o, 3)) (ho : 0 ≤ (pc : Int) + o) (hp : ((pc : Int) + o).toNat = pc') (hn : pc + 3 = pcN) (yes : y < x → Go p e below s mc ms Q m T pc' Ls st) (no : ¬ y < x → Go p e below s mc ms Q m T pcN Ls st) : Go p e below s mc ms Q m T pc Ls (.int y :: .int x :: st) := by
  subst hn
  by_cases q : y < x
  · exact (yes q).of fun _ kk => XS.icmpYes (g := mkF m pc Ls (.int y :: .int x :: st)) X.here hx rfl (pc0 := pc) rfl (hb hby hd) rfl (XT.ii_gt_t q) ho hp kk
  · exact (no q).of fun _ kk => XS.icmpNo (g := mkF m pc Ls (.int y :: .int x :: st)) X.here hx rfl (hb hby hd) rfl (XT.ii_gt_f q) kk
theorem Go.icmp_le (X : Stand p l e R s m args below meth c T locs cells slots) (hx : p.tables.exec = Jvm.exec) (hby : c.code = code) {pcN : Nat} {x y : Int32} {o : Int} (hd : decode code pc = .ok (.if_icmp .le o, 3)) (ho : 0 ≤ (pc : Int) + o) (hp : ((pc : Int) + o).toNat = pc') (hn : pc + 3 = pcN) (yes : ¬ y < x → Go p e below s mc ms Q m T pc' Ls st) (no : y < x → Go p e below s mc ms Q m T pcN Ls st) : Go p e below s mc ms Q m T pc Ls (.int y :: .int x :: st) := by
  subst hn
  by_cases q : y < x
  · exact (no q).of fun _ kk => XS.icmpNo (g := mkF m pc Ls (.int y :: .int x :: st)) X.here hx rfl (hb hby hd) rfl (XT.ii_le_f q) kk
  · exact (yes q).of fun _ kk => XS.icmpYes (g := mkF m pc Ls (.int y :: .int x :: st)) X.here hx rfl (pc0 := pc) rfl (hb hby hd) rfl (XT.ii_le_t q) ho hp kk
theorem Go.if_eq (X : Stand p l e R s m args below meth c T locs cells slots) (hx : p.tables.exec = Jvm.exec) (hby : c.code = code) {pcN : Nat} {x : Int32} {o : Int} (hd : decode code pc = .ok (.ifCond .eq o, 3)) (ho : 0 ≤ (pc : Int) + o) (hp : ((pc : Int) + o).toNat = pc') (hn : pc + 3 = pcN) (yes : x = 0 → Go p e below s mc ms Q m T pc' Ls st) (no : ¬ x = 0 → Go p e below s mc ms Q m T pcN Ls st) : Go p e below s mc ms Q m T pc Ls (.int x :: st) := by
  subst hn
  by_cases q : x = 0
  · exact (yes q).of fun _ kk => XS.ifYes (g := mkF m pc Ls (.int x :: st)) X.here hx rfl (pc0 := pc) rfl (hb hby hd) rfl (XT.i0_eq_t q) ho hp kk
  · exact (no q).of fun _ kk => XS.ifNo (g := mkF m pc Ls (.int x :: st)) X.here hx rfl (hb hby hd) rfl (XT.i0_eq_f q) kk
theorem Go.if_ne (X : Stand p l e R s m args below meth c T locs cells slots) (hx : p.tables.exec = Jvm.exec) (hby : c.code = code) {pcN : Nat} {x : Int32} {o : Int} (hd : decode code pc = .ok (.ifCond .ne o, 3)) (ho : 0 ≤ (pc : Int) + o) (hp : ((pc : Int) + o).toNat = pc') (hn : pc + 3 = pcN) (yes : ¬ x = 0 → Go p e below s mc ms Q m T pc' Ls st) (no : x = 0 → Go p e below s mc ms Q m T pcN Ls st) : Go p e below s mc ms Q m T pc Ls (.int x :: st) := by
  subst hn
  by_cases q : x = 0
  · exact (no q).of fun _ kk => XS.ifNo (g := mkF m pc Ls (.int x :: st)) X.here hx rfl (hb hby hd) rfl (XT.i0_ne_f q) kk
  · exact (yes q).of fun _ kk => XS.ifYes (g := mkF m pc Ls (.int x :: st)) X.here hx rfl (pc0 := pc) rfl (hb hby hd) rfl (XT.i0_ne_t q) ho hp kk
theorem Go.if_lt (X : Stand p l e R s m args below meth c T locs cells slots) (hx : p.tables.exec = Jvm.exec) (hby : c.code = code) {pcN : Nat} {x : Int32} {o : Int} (hd : decode code pc = .ok (.ifCond .lt o, 3)) (ho : 0 ≤ (pc : Int) + o) (hp : ((pc : Int) + o).toNat = pc') (hn : pc + 3 = pcN) (yes : x < 0 → Go p e below s mc ms Q m T pc' Ls st) (no : ¬ x < 0 → Go p e below s mc ms Q m T pcN Ls st) : Go p e below s mc ms Q m T pc Ls (.int x :: st) := by
  subst hn
  by_cases q : x < 0
  · exact (yes q).of fun _ kk => XS.ifYes (g := mkF m pc Ls (.int x :: st)) X.here hx rfl (pc0 := pc) rfl (hb hby hd) rfl (XT.i0_lt_t q) ho hp kk
  · exact (no q).of fun _ kk => XS.ifNo (g := mkF m pc Ls (.int x :: st)) X.here hx rfl (hb hby hd) rfl (XT.i0_lt_f q) kk
theorem Go.if_ge (X : Stand p l e R s m args below meth c T locs cells slots) (hx : p.tables.exec = Jvm.exec) (hby : c.code = code) {pcN : Nat} {x : Int32} {o : Int} (hd : decode code pc = .ok (.ifCond .ge o, 3)) (ho : 0 ≤ (pc : Int) + o) (hp : ((pc : Int) + o).toNat = pc') (hn : pc + 3 = pcN) (yes : ¬ x < 0 → Go p e below s mc ms Q m T pc' Ls st) (no : x < 0 → Go p e below s mc ms Q m T pcN Ls st) : Go p e below s mc ms Q m T pc Ls (.int x :: st) := by
  subst hn
  by_cases q : x < 0
  · exact (no q).of fun _ kk => XS.ifNo (g := mkF m pc Ls (.int x :: st)) X.here hx rfl (hb hby hd) rfl (XT.i0_ge_f q) kk
  · exact (yes q).of fun _ kk => XS.ifYes (g := mkF m pc Ls (.int x :: st)) X.here hx rfl (pc0 := pc) rfl (hb hby hd) rfl (XT.i0_ge_t q) ho hp kk
theorem Go.if_gt (X : Stand p l e R s m args below meth c T locs cells slots) (hx : p.tables.exec = Jvm.exec) (hby : c.code = code) {pcN : Nat} {x : Int32} {o : Int} (hd : decode code pc = .ok (.ifCond .gt o, 3)) (ho : 0 ≤ (pc : Int) + o) (hp : ((pc : Int) + o).toNat = pc') (hn : pc + 3 = pcN) (yes : 0 < x → Go p e below s mc ms Q m T pc' Ls st) (no : ¬ 0 < x → Go p e below s mc ms Q m T pcN Ls st) : Go p e below s mc ms Q m T pc Ls (.int x :: st) := by
  subst hn
  by_cases q : 0 < x
  · exact (yes q).of fun _ kk => XS.ifYes (g := mkF m pc Ls (.int x :: st)) X.here hx rfl (pc0 := pc) rfl (hb hby hd) rfl (XT.i0_gt_t q) ho hp kk
  · exact (no q).of fun _ kk => XS.ifNo (g := mkF m pc Ls (.int x :: st)) X.here hx rfl (hb hby hd) rfl (XT.i0_gt_f q) kk
theorem Go.if_le (X : Stand p l e R s m args below meth c T locs cells slots) (hx : p.tables.exec = Jvm.exec) (hby : c.code = code) {pcN : Nat} {x : Int32} {o : Int} (hd : decode code pc = .ok (.ifCond .le o, 3)) (ho : 0 ≤ (pc : Int) + o) (hp : ((pc : Int) + o).toNat = pc') (hn : pc + 3 = pcN) (yes : ¬ 0 < x → Go p e below s mc ms Q m T pc' Ls st) (no : 0 < x → Go p e below s mc ms Q m T pcN Ls st) : Go p e below s mc ms Q m T pc Ls (.int x :: st) := by
  subst hn
  by_cases q : 0 < x
  · exact (no q).of fun _ kk => XS.ifNo (g := mkF m pc Ls (.int x :: st)) X.here hx rfl (hb hby hd) rfl (XT.i0_le_f q) kk
  · exact (yes q).of fun _ kk => XS.ifYes (g := mkF m pc Ls (.int x :: st)) X.here hx rfl (pc0 := pc) rfl (hb hby hd) rfl (XT.i0_le_t q) ho hp kk
theorem Go.ifL_eq (X : Stand p l e R s m args below meth c T locs cells slots) (hx : p.tables.exec = Jvm.exec) (hby : c.code = code) {pcN : Nat} {x y : Int64} {o : Int} (hd : decode code pc = .ok (.ifCond .eq o, 3)) (ho : 0 ≤ (pc : Int) + o) (hp : ((pc : Int) + o).toNat = pc') (hn : pc + 3 = pcN) (yes : x = y → Go p e below s mc ms Q m T pc' Ls st) (no : ¬ x = y → Go p e below s mc ms Q m T pcN Ls st) : Go p e below s mc ms Q m T pc Ls (.int (XT.cmpL x y) :: st) := by
  subst hn
  by_cases q : x = y
  · exact (yes q).of fun _ kk => XS.ifYes (g := mkF m pc Ls (.int (XT.cmpL x y) :: st)) X.here hx rfl (pc0 := pc) rfl (hb hby hd) rfl (XT.ll_eq_t q) ho hp kk
  · exact (no q).of fun _ kk => XS.ifNo (g := mkF m pc Ls (.int (XT.cmpL x y) :: st)) X.here hx rfl (hb hby hd) rfl (XT.ll_eq_f q) kk
theorem Go.ifL_ne (X : Stand p l e R s m args below meth c T locs cells slots) (hx : p.tables.exec = Jvm.exec) (hby : c.code = code) {pcN : Nat} {x y : Int64} {o : Int} (hd : decode code pc = .ok (.ifCond .ne o, 3)) (ho : 0 ≤ (pc : Int) + o) (hp : ((pc : Int) + o).toNat = pc') (hn : pc + 3 = pcN) (yes : ¬ x = y → Go p e below s mc ms Q m T pc' Ls st) (no : x = y → Go p e below s mc ms Q m T pcN Ls st) : Go p e below s mc ms Q m T pc Ls (.int (XT.cmpL x y) :: st) := by
  subst hn
  by_cases q : x = y
  · exact (no q).of fun _ kk => XS.ifNo (g := mkF m pc Ls (.int (XT.cmpL x y) :: st)) X.here hx rfl (hb hby hd) rfl (XT.ll_ne_f q) kk
  · exact (yes q).of fun _ kk => XS.ifYes (g := mkF m pc Ls (.int (XT.cmpL x y) :: st)) X.here hx rfl (pc0 := pc) rfl (hb hby hd) rfl (XT.ll_ne_t q) ho hp kk
theorem Go.ifL_lt (X : Stand p l e R s m args below meth c T locs cells slots) (hx : p.tables.exec = Jvm.exec) (hby : c.code = code) {pcN : Nat} {x y : Int64} {o : Int} (hd : decode code pc = .ok (.ifCond .lt o, 3)) (ho : 0 ≤ (pc : Int) + o) (hp : ((pc : Int) + o).toNat = pc') (hn : pc + 3 = pcN) (yes : x < y → Go p e below s mc ms Q m T pc' Ls st) (no : ¬ x < y → Go p e below s mc ms Q m T pcN Ls st) : Go p e below s mc ms Q m T pc Ls (.int (XT.cmpL x y) :: st) := by
  subst hn
  by_cases q : x < y
  · exact (yes q).of fun _ kk => XS.ifYes (g := mkF m pc Ls (.int (XT.cmpL x y) :: st)) X.here hx rfl (pc0 := pc) rfl (hb hby hd) rfl (XT.ll_lt_t q) ho hp kk
  · exact (no q).of fun _ kk => XS.ifNo (g := mkF m pc Ls (.int (XT.cmpL x y) :: st)) X.here hx rfl (hb hby hd) rfl (XT.ll_lt_f q) kk
theorem Go.ifL_ge (X : Stand p l e R s m args below meth c T locs cells slots) (hx : p.tables.exec = Jvm.exec) (hby : c.code = code) {pcN : Nat} {x y : Int64} {o : Int} (hd : decode code pc = .ok (.ifCond .ge o, 3)) (ho : 0 ≤ (pc : Int) + o) (hp : ((pc : Int) + o).toNat = pc') (hn : pc + 3 = pcN) (yes : ¬ x < y → Go p e below s mc ms Q m T pc' Ls st) (no : x < y → Go p e below s mc ms Q m T pcN Ls st) : Go p e below s mc ms Q m T pc Ls (.int (XT.cmpL x y) :: st) := by
  subst hn
  by_cases q : x < y
  · exact (no q).of fun _ kk => XS.ifNo (g := mkF m pc Ls (.int (XT.cmpL x y) :: st)) X.here hx rfl (hb hby hd) rfl (XT.ll_ge_f q) kk
  · exact (yes q).of fun _ kk => XS.ifYes (g := mkF m pc Ls (.int (XT.cmpL x y) :: st)) X.here hx rfl (pc0 := pc) rfl (hb hby hd) rfl (XT.ll_ge_t q) ho hp kk
theorem Go.ifL_gt (X : Stand p l e R s m args below meth c T locs cells slots) (hx : p.tables.exec = Jvm.exec) (hby : c.code = code) {pcN : Nat} {x y : Int64} {o : Int} (hd : decode code pc = .ok (.ifCond .gt o, 3)) (ho : 0 ≤ (pc : Int) + o) (hp : ((pc : Int) + o).toNat = pc') (hn : pc + 3 = pcN) (yes : y < x → Go p e below s mc ms Q m T pc' Ls st) (no : ¬ y < x → Go p e below s mc ms Q m T pcN Ls st) : Go p e below s mc ms Q m T pc Ls (.int (XT.cmpL x y) :: st) := by
  subst hn
  by_cases q : y < x
  · exact (yes q).of fun _ kk => XS.ifYes (g := mkF m pc Ls (.int (XT.cmpL x y) :: st)) X.here hx rfl (pc0 := pc) rfl (hb hby hd) rfl (XT.ll_gt_t q) ho hp kk
  · exact (no q).of fun _ kk => XS.ifNo (g := mkF m pc Ls (.int (XT.cmpL x y) :: st)) X.here hx rfl (hb hby hd) rfl (XT.ll_gt_f q) kk
theorem Go.ifL_le (X : Stand p l e R s m args below meth c T locs cells slots) (hx : p.tables.exec = Jvm.exec) (hby : c.code = code) {pcN : Nat} {x y : Int64} {o : Int} (hd : decode code pc = .ok (.ifCond .le o, 3)) (ho : 0 ≤ (pc : Int) + o) (hp : ((pc : Int) + o).toNat = pc') (hn : pc + 3 = pcN) (yes : ¬ y < x → Go p e below s mc ms Q m T pc' Ls st) (no : y < x → Go p e below s mc ms Q m T pcN Ls st) : Go p e below s mc ms Q m T pc Ls (.int (XT.cmpL x y) :: st) := by
  subst hn
  by_cases q : y < x
  · exact (no q).of fun _ kk => XS.ifNo (g := mkF m pc Ls (.int (XT.cmpL x y) :: st)) X.here hx rfl (hb hby hd) rfl (XT.ll_le_f q) kk
  · exact (yes q).of fun _ kk => XS.ifYes (g := mkF m pc Ls (.int (XT.cmpL x y) :: st)) X.here hx rfl (pc0 := pc) rfl (hb hby hd) rfl (XT.ll_le_t q) ho hp kk
theorem Go.iretI (X : Stand p l e R s m args below meth c T locs cells slots) (hx : p.tables.exec = Jvm.exec) (hby : c.code = code) (hlk : meth.locks = false) (hret : meth.sig.returnType = some .int) {w : Int32} (hd : decode code pc = .ok (.ireturn, 1)) (hc : cells ≤ mc) (hs : slots ≤ ms) (hq : Q (some (.int w)) T.heap locs) : Go p e below s mc ms Q m T pc Ls [.int w] := by
  obtain ⟨fs, hr, hrun, hended, hW, hsame⟩ := X.leave (v := some (.int w)) (fun h => by rw [hret] at h; cases h) hlk
  exact ⟨_, _, X.ireturnOut hx hret rfl (Or.inl rfl) (hb hby hd) hr, hrun, hended, _, _, rfl, hq, ⟨_, rfl⟩, hW, hsame.mono hc hs⟩
theorem Go.iretN (X : Stand p l e R s m args below meth c T locs cells slots) (hx : p.tables.exec = Jvm.exec) (hby : c.code = code) (hlk : meth.locks = false) {t : FieldType} (hret : meth.sig.returnType = some t) (ht : t = .boolean ∨ t = .byte ∨ t = .char ∨ t = .short) {w w' : Int32} (hw : nar t w = w') (hd : decode code pc = .ok (.ireturn, 1)) (hc : cells ≤ mc) (hs : slots ≤ ms) (hq : Q (some (.int w')) T.heap locs) : Go p e below s mc ms Q m T pc Ls [.int w] := by
  subst hw
  obtain ⟨fs, hr, hrun, hended, hW, hsame⟩ := X.leave (v := some (.int (nar t w))) (fun h => by rw [hret] at h; cases h) hlk
  exact ⟨_, _, retN X hx (t := t) hret ht (hb hby hd) hr, hrun, hended, _, _, rfl, hq, ⟨_, rfl⟩, hW, hsame.mono hc hs⟩
theorem Go.lret (X : Stand p l e R s m args below meth c T locs cells slots) (hx : p.tables.exec = Jvm.exec) (hby : c.code = code) (hlk : meth.locks = false) (hret : meth.sig.returnType = some .long) {w : Int64} (hd : decode code pc = .ok (.lreturn, 1)) (hc : cells ≤ mc) (hs : slots ≤ ms) (hq : Q (some (.long w)) T.heap locs) : Go p e below s mc ms Q m T pc Ls [.long w] := by
  obtain ⟨fs, hr, hrun, hended, hW, hsame⟩ := X.leave (v := some (.long w)) (fun h => by rw [hret] at h; cases h) hlk
  exact ⟨_, _, X.lreturnOut hx hret (hb hby hd) hr, hrun, hended, _, _, rfl, hq, ⟨_, rfl⟩, hW, hsame.mono hc hs⟩
theorem Go.aret (X : Stand p l e R s m args below meth c T locs cells slots) (hx : p.tables.exec = Jvm.exec) (hby : c.code = code) (hlk : meth.locks = false) {t : FieldType} (hret : meth.sig.returnType = some t) (ht : t.isReference = true) {w : Value} (hw : w.isRef = true) (hd : decode code pc = .ok (.areturn, 1)) (hc : cells ≤ mc) (hs : slots ≤ ms) (hq : Q (some w) T.heap locs) : Go p e below s mc ms Q m T pc Ls [w] := by
  obtain ⟨fs, hr, hrun, hended, hW, hsame⟩ := X.leave (v := some w) (fun h => by rw [hret] at h; cases h) hlk
  exact ⟨_, _, X.areturnOut hx hw hret ht (hb hby hd) hr, hrun, hended, _, _, rfl, hq, ⟨_, rfl⟩, hW, hsame.mono hc hs⟩
theorem Go.vret (X : Stand p l e R s m args below meth c T locs cells slots) (hx : p.tables.exec = Jvm.exec) (hby : c.code = code) (hlk : meth.locks = false) (hret : meth.sig.returnType = none) (hd : decode code pc = .ok (.return_, 1)) (hc : cells ≤ mc) (hs : slots ≤ ms) (hq : Q none T.heap locs) : Go p e below s mc ms Q m T pc Ls [] := by
  obtain ⟨fs, hr, hrun, hended, hW, hsame⟩ := X.leave (v := none) (fun _ => rfl) hlk
  exact ⟨_, _, X.returnOut hx hret (hb hby hd) hr, hrun, hended, _, _, rfl, hq, ⟨_, rfl⟩, hW, hsame.mono hc hs⟩
/-- what a body that keeps the heap leaves -/
def PQ (h0 : Heap) (r : Option Value) (v : Option Value) (h : Heap) (L : List Loc) : Prop := v = r ∧ L = [] ∧ h = h0
theorem Go.callS (X : Stand p l e R s m args below meth c T locs cells slots) (hx : p.tables.exec = Jvm.exec) (hby : c.code = code) {Z : State} {a0 : Array Value} {h : Heap} (hZ : Z.Warmed39 s.vm) (hml : Ls.size = c.maxLocals) {own : String} {k : Nat} {y : MethodName} {bytes : ByteArray} {maxL : Nat} {ret : Option FieldType} {rm : Room} {W : Nat} {as' : Array Value} {QY : Option Value → Heap → List Loc → Prop}
    (hown : s.vm.findClass own = some m.cls) (w1 : (Cond.methodLink own k y).before a0 Z = true) (w2 : (Cond.static y).before a0 Z = true) (w3 : (Cond.initialized y.cls).before a0 Z = true) (w4 : (Cond.code y bytes maxL ret).before a0 Z = true) (hy : y.cls ≠ "java/lang/invoke/MethodHandle" ∧ y.cls ≠ "java/lang/invoke/VarHandle")
    (hM : MetFree l y (head1 [Cond.code y bytes maxL ret] rm) (fun a U => a = as' ∧ Z.Warmed39 U.vm ∧ U.heap = h) (fun _ _ _ _ _ => True) (fun _ U o U' => ∃ v L, o = .returned v ∧ QY v U'.heap L ∧ FrameEnd U o U' L rm.cells rm.slots))
    (hf : rm.frames + 1 ≤ R.frames) (hl : W + (maxL + 11) + rm.locals ≤ R.locals) (eT : T.heap = h) {argsL rest : List Value} {sig : MethodDescriptor} (hsig : parseMethodDescriptor y.desc = some sig) (hlen : argsL.length = sig.parameters.length) (has : argsL.toArray = as') (hst : st = argsL.reverse ++ rest) (hW : (rest.map fun v => v.category).sum ≤ W)
    (hc : cells + rm.cells ≤ R.cells) (hsl : slots + rm.slots ≤ R.slots) (hd : decode code pc = .ok (.invokestatic k, 3)) (hpc : pc + 3 = pc')
    (K : ∀ v T' L, Stand p l e R s m args below meth c T' (locs ++ L) (cells + rm.cells) (slots + rm.slots) → QY v T'.heap L → Go p e below s mc ms Q m T' pc' Ls (v.toList ++ rest)) : Go p e below s mc ms Q m T pc Ls st := by
  subst hpc hst has
  obtain ⟨v, vm₁, B, -, X', ⟨L, hQ, l1, l2, l3⟩, st⟩ := Jvm.LawKit.callS X hx hown (mvT hZ w1) (mvT hZ w2) (mvT hZ w3) (mvT hZ w4) hy (backOf (W := W) hM hZ w4 w3 hf hl) (g := mkF m pc Ls (argsL.reverse ++ rest)) rfl hml (argsL := argsL) (rest := rest) (lenOf hsig hlen) rfl (by show 2 * 0 + _ ≤ _; omega) (hb hby hd) (fun _ _ => ⟨rfl, eT, hc, hsl⟩)
  rw [l1, l2, l3] at X'
  exact (K v B.U L X' hQ).of st
theorem Go.callSP (X : Stand p l e R s m args below meth c T locs cells slots) (hx : p.tables.exec = Jvm.exec) (hby : c.code = code) {Z : State} {a0 : Array Value} {h : Heap} (hZ : Z.Warmed39 s.vm) (hml : Ls.size = c.maxLocals) {own : String} {k : Nat} {y : MethodName} {bytes : ByteArray} {maxL : Nat} {ret : Option FieldType} {rm : Room} {W : Nat} {as' : Array Value} {r : Value}
    (hown : s.vm.findClass own = some m.cls) (w1 : (Cond.methodLink own k y).before a0 Z = true) (w2 : (Cond.static y).before a0 Z = true) (w3 : (Cond.initialized y.cls).before a0 Z = true) (w4 : (Cond.code y bytes maxL ret).before a0 Z = true) (hy : y.cls ≠ "java/lang/invoke/MethodHandle" ∧ y.cls ≠ "java/lang/invoke/VarHandle")
    (hM : MetFree l y (head1 [Cond.code y bytes maxL ret] rm) (fun a U => a = as' ∧ Z.Warmed39 U.vm ∧ U.heap = h) (fun _ _ _ _ _ => True) (fun _ U o U' => ∃ v L, o = .returned v ∧ PQ h (some r) v U'.heap L ∧ FrameEnd U o U' L rm.cells rm.slots))
    (hf : rm.frames + 1 ≤ R.frames) (hl : W + (maxL + 11) + rm.locals ≤ R.locals) (eT : T.heap = h) {argsL rest : List Value} {sig : MethodDescriptor} (hsig : parseMethodDescriptor y.desc = some sig) (hlen : argsL.length = sig.parameters.length) (has : argsL.toArray = as') (hst : st = argsL.reverse ++ rest) (hW : (rest.map fun v => v.category).sum ≤ W)
    (r1 : rm.cells = 0) (r2 : rm.slots = 0) (hc : cells ≤ R.cells) (hsl : slots ≤ R.slots) (hd : decode code pc = .ok (.invokestatic k, 3)) (hpc : pc + 3 = pc')
    (K : ∀ T', Stand p l e R s m args below meth c T' locs cells slots → T'.heap = h → Go p e below s mc ms Q m T' pc' Ls (r :: rest)) : Go p e below s mc ms Q m T pc Ls st := by
  refine Go.callS X hx hby hZ hml hown w1 w2 w3 w4 hy hM hf hl eT hsig hlen has hst hW (by rw [r1]; exact hc) (by rw [r2]; exact hsl) hd hpc (fun v T' L X' hQ => ?_)
  obtain ⟨rfl, rfl, e1⟩ := hQ
  rw [List.append_nil, r1, r2] at X'
  exact K T' X' e1
end Law

-- body 2
def f2_0 (x0 : Int32) : Option (Int32) := some (i2bF (i2bF (shrI x0 (8 : Int32))))
theorem d2_0 : decode prog_7_method_2_code 0 = .ok (.iload_n 0, 1) := by decide +kernel
theorem d2_1 : decode prog_7_method_2_code 1 = .ok (.bipush 8, 2) := by decide +kernel
theorem d2_3 : decode prog_7_method_2_code 3 = .ok (.ishr, 1) := by decide +kernel
theorem d2_4 : decode prog_7_method_2_code 4 = .ok (.i2b, 1) := by decide +kernel
theorem d2_5 : decode prog_7_method_2_code 5 = .ok (.ireturn, 1) := by decide +kernel
abbrev Y2 : MethodName := ⟨"com/example/emniyet/emniyet/engine/Tpm2", "handleType", "(S)B"⟩
def RM2 : Room := { frames := 0, cells := 0, slots := 0, locals := 0 }
theorem pd_2 : parseMethodDescriptor Y2.desc = some ⟨[.short], some .byte⟩ := by decide +kernel
theorem pn_2 : plainName "com/example/emniyet/emniyet/engine/Tpm2" = true := by first | (simp [plainName, overriddenIn]; done) | decide +kernel
theorem ef_2 (m : MethodId) (x0 : Int32) : entryFrame m #[.int x0] 1 = mkF m 0 #[.val (.int x0)] [] := by first | (simp [entryFrame, mkF, argsToLocals, Value.category]; done) | rfl
set_option maxRecDepth 65536 in
set_option maxHeartbeats 40000000 in
theorem rm2 (l : Launch) (Z : State) (a0 : Array Value) (hw : ∀ d ∈ tables_1, d.before a0 Z = true) (x0 : Int32)  (h0 : Heap) (r : Int32) (hf : f2_0 x0 = some r)  :
    MetFree l Y2 (head1 ([Jvm.Cond.code Y2 prog_7_method_2_code 1 (some .byte)]) RM2) (fun a U => a = #[.int x0] ∧ Z.Warmed39 U.vm ∧ U.heap = h0) (fun _ _ _ _ _ => True) (fun _ U o U' => ∃ v L, o = .returned v ∧ (PQ h0 (some (.int r))) v U'.heap L ∧ FrameEnd U o U' L RM2.cells RM2.slots) := by
  refine MetFree.of_bodySF (plainFor_of_name pn_2) hisR ?_
  intro p e s m args below meth c s₁ Bd hml0 hP hK
  obtain ⟨rfl, hZ, hh⟩ := hP
  have hx := Bd.exec
  have hby := Bd.bytes
  have hlk : meth.locks = false := BodyLoose.notSynchronized Bd
  have hret := Bd.returns
  have hml : c.maxLocals = 1 := hml0
  have hown : s.vm.findClass "com/example/emniyet/emniyet/engine/Tpm2" = some m.cls := findClass_of_methodNamed Bd.named
  have X0 : Stand p l e RM2 s m #[.int x0] below meth c s₁ [] 0 0 := Stand.of_body Bd
  have e0 : s₁.heap = h0 := by rw [← hh, Bd.state]; rfl
  suffices G : Go p e below s RM2.cells RM2.slots (PQ h0 (some (.int r))) m s₁ 0 #[.val (.int x0)] [] by
    obtain ⟨s₂, o, h1, h2⟩ := G
    exact ⟨s₂, o, castTop (ef_2 m x0) h1, h2⟩
  have hf0 := hf
  clear hf
  have hf := hf0
  unfold f2_0 at hf
  refine Go.iloadN X0 hx hby (v := x0) d2_0 rfl rfl ?_
  refine Go.bipush X0 hx hby (v := (8 : Int32)) d2_1 rfl rfl ?_
  refine Go.ishr X0 hx hby d2_3 rfl ?_
  refine Go.i2b X0 hx hby d2_4 rfl ?_
  exact Go.iretN X0 hx hby hlk hret (Or.inr (Or.inl rfl)) (w' := (i2bF (i2bF (shrI x0 (8 : Int32))))) rfl d2_5 (by decide) (by decide) ⟨congrArg (fun z => some (Value.int z)) (Option.some.inj hf), rfl, e0⟩
-- body 1
def f1_0 (x0 : Int32) : Option (Int32) := (f2_0 x0).bind fun r1 => if r1 = (2 : Int32) then some (1 : Int32) else if r1 = (3 : Int32) then some (1 : Int32) else if r1 = (-128 : Int32) then some (1 : Int32) else some (0 : Int32)
theorem d1_0 : decode prog_7_method_3_code 0 = .ok (.iload_n 0, 1) := by decide +kernel
theorem d1_1 : decode prog_7_method_3_code 1 = .ok (.invokestatic 9, 3) := by decide +kernel
theorem d1_4 : decode prog_7_method_3_code 4 = .ok (.istore_n 1, 1) := by decide +kernel
theorem d1_5 : decode prog_7_method_3_code 5 = .ok (.iload_n 1, 1) := by decide +kernel
theorem d1_6 : decode prog_7_method_3_code 6 = .ok (.iconst 2, 1) := by decide +kernel
theorem d1_7 : decode prog_7_method_3_code 7 = .ok (.if_icmp .eq 14, 3) := by decide +kernel
theorem d1_10 : decode prog_7_method_3_code 10 = .ok (.iload_n 1, 1) := by decide +kernel
theorem d1_11 : decode prog_7_method_3_code 11 = .ok (.iconst 3, 1) := by decide +kernel
theorem d1_12 : decode prog_7_method_3_code 12 = .ok (.if_icmp .eq 9, 3) := by decide +kernel
theorem d1_15 : decode prog_7_method_3_code 15 = .ok (.iload_n 1, 1) := by decide +kernel
theorem d1_16 : decode prog_7_method_3_code 16 = .ok (.bipush (-128), 2) := by decide +kernel
theorem d1_18 : decode prog_7_method_3_code 18 = .ok (.if_icmp .ne 7, 3) := by decide +kernel
theorem d1_21 : decode prog_7_method_3_code 21 = .ok (.iconst 1, 1) := by decide +kernel
theorem d1_22 : decode prog_7_method_3_code 22 = .ok (.goto 4, 3) := by decide +kernel
theorem d1_25 : decode prog_7_method_3_code 25 = .ok (.iconst 0, 1) := by decide +kernel
theorem d1_26 : decode prog_7_method_3_code 26 = .ok (.ireturn, 1) := by decide +kernel
abbrev Y1 : MethodName := ⟨"com/example/emniyet/emniyet/engine/Tpm2", "isContextHandle", "(S)Z"⟩
def RM1 : Room := { frames := 1, cells := 0, slots := 0, locals := 12 }
theorem pd_1 : parseMethodDescriptor Y1.desc = some ⟨[.short], some .boolean⟩ := by decide +kernel
theorem pn_1 : plainName "com/example/emniyet/emniyet/engine/Tpm2" = true := by first | (simp [plainName, overriddenIn]; done) | decide +kernel
theorem ef_1 (m : MethodId) (x0 : Int32) : entryFrame m #[.int x0] 2 = mkF m 0 #[.val (.int x0), .unset] [] := by first | (simp [entryFrame, mkF, argsToLocals, Value.category]; done) | rfl
set_option maxRecDepth 65536 in
set_option maxHeartbeats 40000000 in
theorem rm1 (l : Launch) (Z : State) (a0 : Array Value) (hw : ∀ d ∈ tables_1, d.before a0 Z = true) (x0 : Int32)  (h0 : Heap) (r : Int32) (hf : f1_0 x0 = some r)  :
    MetFree l Y1 (head1 ([Jvm.Cond.code Y1 prog_7_method_3_code 2 (some .boolean)]) RM1) (fun a U => a = #[.int x0] ∧ Z.Warmed39 U.vm ∧ U.heap = h0) (fun _ _ _ _ _ => True) (fun _ U o U' => ∃ v L, o = .returned v ∧ (PQ h0 (some (.int r))) v U'.heap L ∧ FrameEnd U o U' L RM1.cells RM1.slots) := by
  refine MetFree.of_bodySF (plainFor_of_name pn_1) hisR ?_
  intro p e s m args below meth c s₁ Bd hml0 hP hK
  obtain ⟨rfl, hZ, hh⟩ := hP
  have hx := Bd.exec
  have hby := Bd.bytes
  have hlk : meth.locks = false := BodyLoose.notSynchronized Bd
  have hret := Bd.returns
  have hml : c.maxLocals = 2 := hml0
  have hown : s.vm.findClass "com/example/emniyet/emniyet/engine/Tpm2" = some m.cls := findClass_of_methodNamed Bd.named
  have X0 : Stand p l e RM1 s m #[.int x0] below meth c s₁ [] 0 0 := Stand.of_body Bd
  have e0 : s₁.heap = h0 := by rw [← hh, Bd.state]; rfl
  suffices G : Go p e below s RM1.cells RM1.slots (PQ h0 (some (.int r))) m s₁ 0 #[.val (.int x0), .unset] [] by
    obtain ⟨s₂, o, h1, h2⟩ := G
    exact ⟨s₂, o, castTop (ef_1 m x0) h1, h2⟩
  have hf0 := hf
  clear hf
  have hf := hf0
  unfold f1_0 at hf
  refine Go.iloadN X0 hx hby (v := x0) d1_0 rfl rfl ?_
  obtain ⟨r5, g5, hf⟩ := Option.bind_eq_some_iff.mp hf
  refine Go.callSP X0 hx hby hZ (by rw [hml]; rfl) (W := 0) (argsL := [.int x0]) (rest := []) hown (hw _ (List.mem_of_getElem? (i := 5) rfl)) (hw _ (List.mem_of_getElem? (i := 6) rfl)) (hw _ (List.mem_of_getElem? (i := 3) rfl)) (hw _ (List.mem_of_getElem? (i := 7) rfl)) (by decide) (rm2 l Z a0 hw x0  h0 r5 g5 ) (by decide) (by decide) e0 pd_2 rfl rfl rfl (Nat.le_of_eq rfl) rfl rfl (by decide) (by decide) d1_1 rfl (fun T5 X5 e5 => ?_)
  refine Go.istoreN X5 hx hby (Ls' := #[.val (.int x0), .val (.int r5)]) d1_4 rfl rfl ?_
  refine Go.iloadN X5 hx hby (v := r5) d1_5 rfl rfl ?_
  refine Go.iconst X5 hx hby (v := (2 : Int32)) d1_6 rfl rfl ?_
  refine Go.icmp_eq X5 hx hby (pc' := 21) d1_7 (by decide) (by decide) rfl (fun hc6 => ?_) (fun hc6 => ?_)
  · replace hf := (if_pos hc6).symm.trans hf
    refine Go.iconst X5 hx hby (v := (1 : Int32)) d1_21 rfl rfl ?_
    refine Go.goto X5 hx hby (pc' := 26) d1_22 (by decide) (by decide) ?_
    exact Go.iretN X5 hx hby hlk hret (Or.inl rfl) (w' := (1 : Int32)) rfl d1_26 (by decide) (by decide) ⟨congrArg (fun z => some (Value.int z)) (Option.some.inj hf), rfl, e5⟩
  · replace hf := (if_neg hc6).symm.trans hf
    refine Go.iloadN X5 hx hby (v := r5) d1_10 rfl rfl ?_
    refine Go.iconst X5 hx hby (v := (3 : Int32)) d1_11 rfl rfl ?_
    refine Go.icmp_eq X5 hx hby (pc' := 21) d1_12 (by decide) (by decide) rfl (fun hc7 => ?_) (fun hc7 => ?_)
    · replace hf := (if_pos hc7).symm.trans hf
      refine Go.iconst X5 hx hby (v := (1 : Int32)) d1_21 rfl rfl ?_
      refine Go.goto X5 hx hby (pc' := 26) d1_22 (by decide) (by decide) ?_
      exact Go.iretN X5 hx hby hlk hret (Or.inl rfl) (w' := (1 : Int32)) rfl d1_26 (by decide) (by decide) ⟨congrArg (fun z => some (Value.int z)) (Option.some.inj hf), rfl, e5⟩
    · replace hf := (if_neg hc7).symm.trans hf
      refine Go.iloadN X5 hx hby (v := r5) d1_15 rfl rfl ?_
      refine Go.bipush X5 hx hby (v := (-128 : Int32)) d1_16 rfl rfl ?_
      refine Go.icmp_ne X5 hx hby (pc' := 25) d1_18 (by decide) (by decide) rfl (fun hc8 => ?_) (fun hc8 => ?_)
      · replace hf := (if_neg hc8).symm.trans hf
        refine Go.iconst X5 hx hby (v := (0 : Int32)) d1_25 rfl rfl ?_
        exact Go.iretN X5 hx hby hlk hret (Or.inl rfl) (w' := (0 : Int32)) rfl d1_26 (by decide) (by decide) ⟨congrArg (fun z => some (Value.int z)) (Option.some.inj hf), rfl, e5⟩
      · replace hf := (if_pos hc8).symm.trans hf
        refine Go.iconst X5 hx hby (v := (1 : Int32)) d1_21 rfl rfl ?_
        refine Go.goto X5 hx hby (pc' := 26) d1_22 (by decide) (by decide) ?_
        exact Go.iretN X5 hx hby hlk hret (Or.inl rfl) (w' := (1 : Int32)) rfl d1_26 (by decide) (by decide) ⟨congrArg (fun z => some (Value.int z)) (Option.some.inj hf), rfl, e5⟩
-- body 0
def f0_99 (x5 : Int32) (t0 : Int32) : Option (Int32) := (f1_0 x5).bind fun r9 => if r9 = t0 then some (1 : Int32) else some (0 : Int32)
def f0_94 (x5 : Int32) : Option (Int32) := f0_99 x5 (1 : Int32)
def f0_64 (x5 : Int32) : Option (Int32) := if (XT.ushr (x5 &&& (65535 : Int32)) (8 : Int32)) = (2 : Int32) then f0_94 x5 else if (XT.ushr (x5 &&& (65535 : Int32)) (8 : Int32)) = (3 : Int32) then f0_94 x5 else if (XT.ushr (x5 &&& (65535 : Int32)) (8 : Int32)) = (128 : Int32) then f0_94 x5 else f0_99 x5 (0 : Int32)
def f0_0 (x0 : Int32) (x1 : Int32) (x2 : Int32) : Option (Int32) := if (x0 &&& (3 : Int32)) = 0 then f0_64 (i2sF ((512 : Int32) ||| (x1 &&& (255 : Int32)))) else if (x0 &&& (3 : Int32)) = (1 : Int32) then f0_64 (i2sF ((768 : Int32) ||| (x1 &&& (255 : Int32)))) else if (x0 &&& (3 : Int32)) = (2 : Int32) then f0_64 (i2sF ((32768 : Int32) ||| (x1 &&& (255 : Int32)))) else f0_64 (i2sF x2)
theorem pn_0 : plainName "com/example/emniyet/emniyet/engine/Tpm2IsContextHandlePinLaw" = true := by first | (simp [plainName, overriddenIn]; done) | decide +kernel
theorem ef_0 (m : MethodId) (x0 : Int32) (x1 : Int32) (x2 : Int32) : entryFrame m #[.int x0, .int x1, .int x2] maxLocals = mkF m 0 #[.val (.int x0), .val (.int x1), .val (.int x2), .unset, .unset, .unset, .unset, .unset] [] := by first | (simp [entryFrame, mkF, argsToLocals, Value.category, maxLocals]; done) | rfl
set_option maxRecDepth 65536 in
set_option maxHeartbeats 40000000 in
theorem rm0 (l : Launch) (Z : State) (a0 : Array Value) (hw : ∀ d ∈ tables_1, d.before a0 Z = true) (ws : List Jvm.Cond) (x0 : Int32) (x1 : Int32) (x2 : Int32)  (h0 : Heap) (n0 : Nat) (Z0 : n0 ≤ h0.size) (r : Int32) (hf : f0_0 x0 x1 x2 = some r)  :
    MetFree l x (head1 (Jvm.Cond.code x code maxLocals ret :: ws) room_1) (fun a U => a = #[.int x0, .int x1, .int x2] ∧ Z.Warmed39 U.vm ∧ U.heap = h0) (fun _ _ _ _ _ => True) (fun _ U o U' => ∃ v L, o = .returned v ∧ (fun v h L => v = some (.int r) ∧ Fr n0 L) v U'.heap L ∧ FrameEnd U o U' L room_1.cells room_1.slots) := by
  refine MetFree.of_bodySF (plainFor_of_name pn_0) hisR ?_
  intro p e s m args below meth c s₁ Bd hml0 hP hK
  obtain ⟨rfl, hZ, hh⟩ := hP
  have hx := Bd.exec
  have hby := Bd.bytes
  have hlk : meth.locks = false := BodyLoose.notSynchronized Bd
  have hret := Bd.returns
  have hml : c.maxLocals = 8 := hml0
  have hown : s.vm.findClass "com/example/emniyet/emniyet/engine/Tpm2IsContextHandlePinLaw" = some m.cls := findClass_of_methodNamed Bd.named
  have X0 : Stand p l e room_1 s m #[.int x0, .int x1, .int x2] below meth c s₁ [] 0 0 := Stand.of_body Bd
  have e0 : s₁.heap = h0 := by rw [← hh, Bd.state]; rfl
  suffices G : Go p e below s room_1.cells room_1.slots (fun v h L => v = some (.int r) ∧ Fr n0 L) m s₁ 0 #[.val (.int x0), .val (.int x1), .val (.int x2), .unset, .unset, .unset, .unset, .unset] [] by
    obtain ⟨s₂, o, h1, h2⟩ := G
    exact ⟨s₂, o, castTop (ef_0 m x0 x1 x2) h1, h2⟩
  have hf0 := hf
  clear hf
  have B99 : ∀ (T : State), Stand p l e room_1 s m #[.int x0, .int x1, .int x2] below meth c T [] 0 0 → T.heap = h0 → ∀ (x0 : Int32) (x1 : Int32) (x2 : Int32) (x3 : Int32) (x4 : Int32) (x5 : Int32) (x6 : Int32) (t0 : Int32), f0_99 x5 t0 = some r → Go p e below s room_1.cells room_1.slots (fun v h L => v = some (.int r) ∧ Fr n0 L) m T 99 #[.val (.int x0), .val (.int x1), .val (.int x2), .val (.int x3), .val (.int x4), .val (.int x5), .val (.int x6), .unset] [.int t0] := by
    intro T17 X17 e17 x0 x1 x2 x3 x4 x5 x6 t0 hf
    unfold f0_99 at hf
    refine Go.istore X17 hx hby (Ls' := #[.val (.int x0), .val (.int x1), .val (.int x2), .val (.int x3), .val (.int x4), .val (.int x5), .val (.int x6), .val (.int t0)]) at_99 rfl rfl ?_
    refine Go.iload X17 hx hby (v := x5) at_101 rfl rfl ?_
    obtain ⟨r18, g18, hf⟩ := Option.bind_eq_some_iff.mp hf
    refine Go.callSP X17 hx hby hZ (by rw [hml]; rfl) (W := 0) (argsL := [.int x5]) (rest := []) hown (hw _ (List.mem_of_getElem? (i := 1) rfl)) (hw _ (List.mem_of_getElem? (i := 2) rfl)) (hw _ (List.mem_of_getElem? (i := 3) rfl)) (hw _ (List.mem_of_getElem? (i := 4) rfl)) (by decide) (rm1 l Z a0 hw x5  h0 r18 g18 ) (by decide) (by decide) e17 pd_1 rfl rfl rfl (Nat.le_of_eq rfl) rfl rfl (by decide) (by decide) at_103 rfl (fun T18 X18 e18 => ?_)
    refine Go.iload X18 hx hby (v := t0) at_106 rfl rfl ?_
    refine Go.icmp_ne X18 hx hby (pc' := 115) at_108 (by decide) (by decide) rfl (fun hc19 => ?_) (fun hc19 => ?_)
    · replace hf := (if_neg hc19).symm.trans hf
      refine Go.iconst X18 hx hby (v := (0 : Int32)) at_115 rfl rfl ?_
      exact Go.iretN X18 hx hby hlk hret (Or.inl rfl) (w' := (0 : Int32)) rfl at_116 (by decide) (by decide) ⟨congrArg (fun z => some (Value.int z)) (Option.some.inj hf), Fr.nil n0⟩
    · replace hf := (if_pos hc19).symm.trans hf
      refine Go.iconst X18 hx hby (v := (1 : Int32)) at_111 rfl rfl ?_
      refine Go.goto X18 hx hby (pc' := 116) at_112 (by decide) (by decide) ?_
      exact Go.iretN X18 hx hby hlk hret (Or.inl rfl) (w' := (1 : Int32)) rfl at_116 (by decide) (by decide) ⟨congrArg (fun z => some (Value.int z)) (Option.some.inj hf), Fr.nil n0⟩
  have B94 : ∀ (T : State), Stand p l e room_1 s m #[.int x0, .int x1, .int x2] below meth c T [] 0 0 → T.heap = h0 → ∀ (x0 : Int32) (x1 : Int32) (x2 : Int32) (x3 : Int32) (x4 : Int32) (x5 : Int32) (x6 : Int32), f0_94 x5 = some r → Go p e below s room_1.cells room_1.slots (fun v h L => v = some (.int r) ∧ Fr n0 L) m T 94 #[.val (.int x0), .val (.int x1), .val (.int x2), .val (.int x3), .val (.int x4), .val (.int x5), .val (.int x6), .unset] [] := by
    intro T20 X20 e20 x0 x1 x2 x3 x4 x5 x6 hf
    unfold f0_94 at hf
    refine Go.iconst X20 hx hby (v := (1 : Int32)) at_94 rfl rfl ?_
    refine Go.goto X20 hx hby (pc' := 99) at_95 (by decide) (by decide) ?_
    exact B99 T20 X20 e20 x0 x1 x2 x3 x4 x5 x6 (1 : Int32) hf
  have B64 : ∀ (T : State), Stand p l e room_1 s m #[.int x0, .int x1, .int x2] below meth c T [] 0 0 → T.heap = h0 → ∀ (x0 : Int32) (x1 : Int32) (x2 : Int32) (x3 : Int32) (x4 : Int32) (x5 : Int32), f0_64 x5 = some r → Go p e below s room_1.cells room_1.slots (fun v h L => v = some (.int r) ∧ Fr n0 L) m T 64 #[.val (.int x0), .val (.int x1), .val (.int x2), .val (.int x3), .val (.int x4), .val (.int x5), .unset, .unset] [] := by
    intro T21 X21 e21 x0 x1 x2 x3 x4 x5 hf
    unfold f0_64 at hf
    refine Go.iload X21 hx hby (v := x5) at_64 rfl rfl ?_
    refine Go.ldcI X21 hx hby hZ (v := (65535 : Int32)) hown (hw _ (List.mem_of_getElem? (i := 0) rfl)) at_66 rfl ?_
    refine Go.iand X21 hx hby at_68 rfl ?_
    refine Go.bipush X21 hx hby (v := (8 : Int32)) at_69 rfl rfl ?_
    refine Go.iushr X21 hx hby at_71 rfl ?_
    refine Go.istore X21 hx hby (Ls' := #[.val (.int x0), .val (.int x1), .val (.int x2), .val (.int x3), .val (.int x4), .val (.int x5), .val (.int (XT.ushr (x5 &&& (65535 : Int32)) (8 : Int32))), .unset]) at_72 rfl rfl ?_
    refine Go.iload X21 hx hby (v := (XT.ushr (x5 &&& (65535 : Int32)) (8 : Int32))) at_74 rfl rfl ?_
    refine Go.iconst X21 hx hby (v := (2 : Int32)) at_76 rfl rfl ?_
    refine Go.icmp_eq X21 hx hby (pc' := 94) at_77 (by decide) (by decide) rfl (fun hc22 => ?_) (fun hc22 => ?_)
    · replace hf := (if_pos hc22).symm.trans hf
      exact B94 T21 X21 e21 x0 x1 x2 x3 x4 x5 (XT.ushr (x5 &&& (65535 : Int32)) (8 : Int32)) hf
    · replace hf := (if_neg hc22).symm.trans hf
      refine Go.iload X21 hx hby (v := (XT.ushr (x5 &&& (65535 : Int32)) (8 : Int32))) at_80 rfl rfl ?_
      refine Go.iconst X21 hx hby (v := (3 : Int32)) at_82 rfl rfl ?_
      refine Go.icmp_eq X21 hx hby (pc' := 94) at_83 (by decide) (by decide) rfl (fun hc23 => ?_) (fun hc23 => ?_)
      · replace hf := (if_pos hc23).symm.trans hf
        exact B94 T21 X21 e21 x0 x1 x2 x3 x4 x5 (XT.ushr (x5 &&& (65535 : Int32)) (8 : Int32)) hf
      · replace hf := (if_neg hc23).symm.trans hf
        refine Go.iload X21 hx hby (v := (XT.ushr (x5 &&& (65535 : Int32)) (8 : Int32))) at_86 rfl rfl ?_
        refine Go.sipush X21 hx hby (v := (128 : Int32)) at_88 rfl rfl ?_
        refine Go.icmp_ne X21 hx hby (pc' := 98) at_91 (by decide) (by decide) rfl (fun hc24 => ?_) (fun hc24 => ?_)
        · replace hf := (if_neg hc24).symm.trans hf
          refine Go.iconst X21 hx hby (v := (0 : Int32)) at_98 rfl rfl ?_
          exact B99 T21 X21 e21 x0 x1 x2 x3 x4 x5 (XT.ushr (x5 &&& (65535 : Int32)) (8 : Int32)) (0 : Int32) hf
        · replace hf := (if_pos hc24).symm.trans hf
          exact B94 T21 X21 e21 x0 x1 x2 x3 x4 x5 (XT.ushr (x5 &&& (65535 : Int32)) (8 : Int32)) hf
  have hf := hf0
  unfold f0_0 at hf
  refine Go.iloadN X0 hx hby (v := x0) at_0 rfl rfl ?_
  refine Go.iconst X0 hx hby (v := (3 : Int32)) at_1 rfl rfl ?_
  refine Go.iand X0 hx hby at_2 rfl ?_
  refine Go.istoreN X0 hx hby (Ls' := #[.val (.int x0), .val (.int x1), .val (.int x2), .val (.int (x0 &&& (3 : Int32))), .unset, .unset, .unset, .unset]) at_3 rfl rfl ?_
  refine Go.iloadN X0 hx hby (v := x1) at_4 rfl rfl ?_
  refine Go.sipush X0 hx hby (v := (255 : Int32)) at_5 rfl rfl ?_
  refine Go.iand X0 hx hby at_8 rfl ?_
  refine Go.istore X0 hx hby (Ls' := #[.val (.int x0), .val (.int x1), .val (.int x2), .val (.int (x0 &&& (3 : Int32))), .val (.int (x1 &&& (255 : Int32))), .unset, .unset, .unset]) at_9 rfl rfl ?_
  refine Go.iloadN X0 hx hby (v := (x0 &&& (3 : Int32))) at_11 rfl rfl ?_
  refine Go.if_ne X0 hx hby (pc' := 27) at_12 (by decide) (by decide) rfl (fun hc25 => ?_) (fun hc25 => ?_)
  · replace hf := (if_neg hc25).symm.trans hf
    refine Go.iloadN X0 hx hby (v := (x0 &&& (3 : Int32))) at_27 rfl rfl ?_
    refine Go.iconst X0 hx hby (v := (1 : Int32)) at_28 rfl rfl ?_
    refine Go.icmp_ne X0 hx hby (pc' := 44) at_29 (by decide) (by decide) rfl (fun hc26 => ?_) (fun hc26 => ?_)
    · replace hf := (if_neg hc26).symm.trans hf
      refine Go.iloadN X0 hx hby (v := (x0 &&& (3 : Int32))) at_44 rfl rfl ?_
      refine Go.iconst X0 hx hby (v := (2 : Int32)) at_45 rfl rfl ?_
      refine Go.icmp_ne X0 hx hby (pc' := 60) at_46 (by decide) (by decide) rfl (fun hc27 => ?_) (fun hc27 => ?_)
      · replace hf := (if_neg hc27).symm.trans hf
        refine Go.iloadN X0 hx hby (v := x2) at_60 rfl rfl ?_
        refine Go.i2s X0 hx hby at_61 rfl ?_
        refine Go.istore X0 hx hby (Ls' := #[.val (.int x0), .val (.int x1), .val (.int x2), .val (.int (x0 &&& (3 : Int32))), .val (.int (x1 &&& (255 : Int32))), .val (.int (i2sF x2)), .unset, .unset]) at_62 rfl rfl ?_
        exact B64 s₁ X0 e0 x0 x1 x2 (x0 &&& (3 : Int32)) (x1 &&& (255 : Int32)) (i2sF x2) hf
      · replace hf := (if_pos hc27).symm.trans hf
        refine Go.ldcI X0 hx hby hZ (v := (32768 : Int32)) hown (hw _ (List.mem_of_getElem? (i := 8) rfl)) at_49 rfl ?_
        refine Go.iload X0 hx hby (v := (x1 &&& (255 : Int32))) at_51 rfl rfl ?_
        refine Go.ior X0 hx hby at_53 rfl ?_
        refine Go.i2s X0 hx hby at_54 rfl ?_
        refine Go.istore X0 hx hby (Ls' := #[.val (.int x0), .val (.int x1), .val (.int x2), .val (.int (x0 &&& (3 : Int32))), .val (.int (x1 &&& (255 : Int32))), .val (.int (i2sF ((32768 : Int32) ||| (x1 &&& (255 : Int32))))), .unset, .unset]) at_55 rfl rfl ?_
        refine Go.goto X0 hx hby (pc' := 64) at_57 (by decide) (by decide) ?_
        exact B64 s₁ X0 e0 x0 x1 x2 (x0 &&& (3 : Int32)) (x1 &&& (255 : Int32)) (i2sF ((32768 : Int32) ||| (x1 &&& (255 : Int32)))) hf
    · replace hf := (if_pos hc26).symm.trans hf
      refine Go.sipush X0 hx hby (v := (768 : Int32)) at_32 rfl rfl ?_
      refine Go.iload X0 hx hby (v := (x1 &&& (255 : Int32))) at_35 rfl rfl ?_
      refine Go.ior X0 hx hby at_37 rfl ?_
      refine Go.i2s X0 hx hby at_38 rfl ?_
      refine Go.istore X0 hx hby (Ls' := #[.val (.int x0), .val (.int x1), .val (.int x2), .val (.int (x0 &&& (3 : Int32))), .val (.int (x1 &&& (255 : Int32))), .val (.int (i2sF ((768 : Int32) ||| (x1 &&& (255 : Int32))))), .unset, .unset]) at_39 rfl rfl ?_
      refine Go.goto X0 hx hby (pc' := 64) at_41 (by decide) (by decide) ?_
      exact B64 s₁ X0 e0 x0 x1 x2 (x0 &&& (3 : Int32)) (x1 &&& (255 : Int32)) (i2sF ((768 : Int32) ||| (x1 &&& (255 : Int32)))) hf
  · replace hf := (if_pos hc25).symm.trans hf
    refine Go.sipush X0 hx hby (v := (512 : Int32)) at_15 rfl rfl ?_
    refine Go.iload X0 hx hby (v := (x1 &&& (255 : Int32))) at_18 rfl rfl ?_
    refine Go.ior X0 hx hby at_20 rfl ?_
    refine Go.i2s X0 hx hby at_21 rfl ?_
    refine Go.istore X0 hx hby (Ls' := #[.val (.int x0), .val (.int x1), .val (.int x2), .val (.int (x0 &&& (3 : Int32))), .val (.int (x1 &&& (255 : Int32))), .val (.int (i2sF ((512 : Int32) ||| (x1 &&& (255 : Int32))))), .unset, .unset]) at_22 rfl rfl ?_
    refine Go.goto X0 hx hby (pc' := 64) at_24 (by decide) (by decide) ?_
    exact B64 s₁ X0 e0 x0 x1 x2 (x0 &&& (3 : Int32)) (x1 &&& (255 : Int32)) (i2sF ((512 : Int32) ||| (x1 &&& (255 : Int32)))) hf
theorem own_mask (x : Int32) (k : Nat) (hk : k ≤ 31) (m : Int32) (hm : m = Int32.ofNat (2 ^ k - 1)) : (x &&& m).toInt = x.toInt % (2 ^ k : Nat) := by
  subst hm
  have h1 : (x &&& Int32.ofNat (2 ^ k - 1)).toBitVec.toNat = x.toBitVec.toNat % 2 ^ k := by
    rw [Int32.toBitVec_and, BitVec.toNat_and]
    have : (Int32.ofNat (2 ^ k - 1)).toBitVec.toNat = 2 ^ k - 1 := by
      show (BitVec.ofNat 32 (2 ^ k - 1)).toNat = _
      rw [BitVec.toNat_ofNat]
      apply Nat.mod_eq_of_lt
      have : 2 ^ k ≤ 2 ^ 31 := Nat.pow_le_pow_right (by decide) hk
      omega
    rw [this, Nat.and_two_pow_sub_one_eq_mod]
  have hp : 2 ^ k ≤ 2 ^ 31 := Nat.pow_le_pow_right (by decide) hk
  have hpos : 0 < 2 ^ k := Nat.two_pow_pos k
  have hlt := Nat.mod_lt x.toBitVec.toNat hpos
  show (x &&& Int32.ofNat (2 ^ k - 1)).toBitVec.toInt = x.toBitVec.toInt % _
  rw [BitVec.toInt_eq_toNat_cond, h1, if_pos (by omega), BitVec.toInt_eq_toNat_cond]
  split
  · simp
  · have hd : (2 ^ k : Nat) ∣ 2 ^ 32 := Nat.pow_dvd_pow 2 (by omega)
    obtain ⟨q, hq⟩ := hd
    rw [Int.sub_emod, show ((2 ^ 32 : Nat) : Int) % (2 ^ k : Nat) = 0 by rw [hq]; simp]
    simp
theorem own_fin32 (x : Int32) (N : Nat) (h0 : 0 ≤ x.toInt) (h1 : x.toInt < N) : ∃ n : Fin N, x = Int32.ofNat n.val := by
  refine ⟨⟨x.toInt.toNat, by omega⟩, Int32.toInt_inj.mp ?_⟩
  have := x.toInt_lt
  rw [Int32.toInt_ofNat_of_lt (by show x.toInt.toNat < _; omega)]
  show x.toInt = (x.toInt.toNat : Int); omega
theorem own_remI (x y : Int32) (hx : 0 ≤ x.toInt) (hy : 0 < y.toInt) : (remI x y).toInt = x.toInt % y.toInt := by
  have h1 := x.toInt_lt; have h2 := y.toInt_lt
  have hq : (x / y).toInt = x.toInt / y.toInt := by
    rw [Int32.toInt_div, Int.tdiv_eq_ediv_of_nonneg hx]
    have a1 : 0 ≤ x.toInt / y.toInt := Int.ediv_nonneg hx (by omega)
    have a2 : x.toInt / y.toInt ≤ x.toInt := Int.ediv_le_self _ hx
    exact Int.bmod_eq_of_le (by omega) (by omega)
  have e := Int.emod_add_mul_ediv x.toInt y.toInt
  have m0 := Int.emod_nonneg x.toInt (b := y.toInt) (by omega)
  have hm : (x / y * y).toInt = x.toInt / y.toInt * y.toInt := by
    rw [Int32.toInt_mul, hq]
    have : x.toInt / y.toInt * y.toInt = y.toInt * (x.toInt / y.toInt) := Int.mul_comm _ _
    have a1 : 0 ≤ y.toInt * (x.toInt / y.toInt) := Int.mul_nonneg (by omega) (Int.ediv_nonneg hx (by omega))
    exact Int.bmod_eq_of_le (by omega) (by omega)
  unfold remI
  rw [Int32.toInt_sub, hm]
  have : x.toInt / y.toInt * y.toInt = y.toInt * (x.toInt / y.toInt) := Int.mul_comm _ _
  have m1 := Int.emod_lt_of_pos x.toInt hy
  rw [show x.toInt - x.toInt / y.toInt * y.toInt = x.toInt % y.toInt by omega]
  exact Int.bmod_eq_of_le (by omega) (by omega)
theorem own_bm (x : Int) (n : Nat) (m : Int) (h : (2 * m).toNat = n) (hm : 0 < m) : x.bmod n = (x + m) % (2 * m) - m := by
  have hn : (n : Int) = 2 * m := by omega
  rw [Int.bmod_def, hn, show ((2 * m + 1) / 2 : Int) = m by omega]
  have h1 := Int.emod_nonneg x (b := 2 * m) (by omega)
  have h2 := Int.emod_lt_of_pos x (b := 2 * m) (by omega)
  have e := Int.emod_add_mul_ediv x (2 * m)
  generalize x / (2 * m) = q at *
  generalize x % (2 * m) = r at *
  subst e
  rw [show r + 2 * m * q + m = (r + m) + 2 * m * q by omega, Int.add_mul_emod_self_left]
  split
  · rw [Int.emod_eq_of_lt (by omega) (by omega)]; omega
  · rw [show r + m = (r - m) + 2 * m * 1 by omega, Int.add_mul_emod_self_left, Int.emod_eq_of_lt (by omega) (by omega)]; omega
theorem own_i2b (x : Int32) : (i2bF x).toInt = (x.toInt + 128) % 256 - 128 := by
  unfold i2bF; rw [Int8.toInt_toInt32, Int32.toInt_toInt8]; exact own_bm _ _ 128 rfl (by decide)
theorem own_i2s (x : Int32) : (i2sF x).toInt = (x.toInt + 32768) % 65536 - 32768 := by
  unfold i2sF; rw [Int16.toInt_toInt32, Int32.toInt_toInt16]; exact own_bm _ _ 32768 rfl (by decide)
theorem own_tonat (x : Int32) : (x.toBitVec.toNat : Int) = x.toInt % 4294967296 := by
  show _ = x.toBitVec.toInt % 4294967296
  rw [BitVec.toInt_eq_toNat_cond]
  have := x.toBitVec.isLt
  split <;> omega
theorem own_toint (x : Int32) (h : x.toBitVec.toNat < 2147483648) : x.toInt = x.toBitVec.toNat := by
  show x.toBitVec.toInt = _
  rw [BitVec.toInt_eq_toNat_cond, if_pos (by omega)]
theorem own_tonatJ (x : Int64) : (x.toBitVec.toNat : Int) = x.toInt % 18446744073709551616 := by
  show _ = x.toBitVec.toInt % 18446744073709551616
  rw [BitVec.toInt_eq_toNat_cond]
  have := x.toBitVec.isLt
  split <;> omega
theorem own_tointJ (x : Int64) (h : x.toBitVec.toNat < 9223372036854775808) : x.toInt = x.toBitVec.toNat := by
  show x.toBitVec.toInt = _
  rw [BitVec.toInt_eq_toNat_cond, if_pos (by omega)]
theorem own_i2c (x : Int32) : (i2cF x).toInt = x.toInt % 65536 := by
  have h : (i2cF x).toBitVec.toNat = x.toBitVec.toNat % 65536 := by
    show (BitVec.setWidth 32 (BitVec.setWidth 16 x.toBitVec)).toNat = _
    rw [BitVec.toNat_setWidth, BitVec.toNat_setWidth]; omega
  have := own_tonat x
  rw [own_toint _ (by omega), h]; omega
theorem own_amt : ∀ k : Fin 32, ((Int32.ofNat k.val &&& 31).toBitVec.smod 32).toNat = k.val := by decide +kernel
theorem own_amtU : ∀ k : Fin 32, ((Int32.ofNat k.val &&& 31).toUInt32.toBitVec.toNat) = k.val := by decide +kernel
theorem own_shr (x : Int32) (k : Nat) (hk : k < 32) : (shrI x (Int32.ofNat k)).toInt = x.toInt / (2 ^ k : Nat) := by
  show (BitVec.sshiftRight x.toBitVec ((Int32.ofNat k &&& 31).toBitVec.smod 32).toNat).toInt = x.toBitVec.toInt / _
  rw [own_amt ⟨k, hk⟩, BitVec.toInt_sshiftRight, Int.shiftRight_eq_div_pow]
theorem own_shl (x : Int32) (k : Nat) (hk : k < 32) : (shlI x (Int32.ofNat k)).toInt = (x.toInt * (2 ^ k : Nat)).bmod 4294967296 := by
  show (x.toBitVec <<< ((Int32.ofNat k &&& 31).toBitVec.smod 32)).toInt = (x.toBitVec.toInt * _).bmod _
  rw [BitVec.shiftLeft_eq', own_amt ⟨k, hk⟩, BitVec.toInt_shiftLeft, Nat.shiftLeft_eq, BitVec.toInt_eq_toNat_bmod]
  rw [Int.bmod_mul_bmod]
  congr 1
theorem own_ushr (x : Int32) (k : Nat) (hk : k < 32) (h0 : 0 < k) : (XT.ushr x (Int32.ofNat k)).toInt = (x.toInt % 4294967296) / (2 ^ k : Nat) := by
  have h : (XT.ushr x (Int32.ofNat k)).toBitVec.toNat = x.toBitVec.toNat / 2 ^ k := by
    show (x.toBitVec >>> ((Int32.ofNat k &&& 31).toUInt32.toBitVec % 32)).toNat = _
    rw [BitVec.ushiftRight_eq', BitVec.toNat_ushiftRight, BitVec.toNat_umod, own_amtU ⟨k, hk⟩, Nat.shiftRight_eq_div_pow]
    show _ / 2 ^ (k % 32) = _
    rw [Nat.mod_eq_of_lt hk]
  have h1 := x.toBitVec.isLt
  have h2 : x.toBitVec.toNat / 2 ^ k ≤ x.toBitVec.toNat / 2 ^ 1 := Nat.div_le_div_left (Nat.pow_le_pow_right (by decide) h0) (by decide)
  rw [own_toint _ (by omega), h, ← own_tonat]; rfl
theorem own_ushr0 (x : Int32) (k : Nat) (hk : k < 32) (h0 : 0 ≤ x.toInt) : (XT.ushr x (Int32.ofNat k)).toInt = x.toInt / (2 ^ k : Nat) := by
  have h1 := x.toInt_lt
  by_cases q : k = 0
  · subst q
    have : XT.ushr x (Int32.ofNat 0) = x := by
      apply Int32.toBitVec_inj.mp
      apply BitVec.eq_of_toNat_eq
      show (x.toBitVec >>> ((Int32.ofNat 0 &&& 31).toUInt32.toBitVec % 32)).toNat = _
      rw [BitVec.ushiftRight_eq', BitVec.toNat_ushiftRight, BitVec.toNat_umod, own_amtU ⟨0, hk⟩]; rfl
    rw [this]; simp
  · rw [own_ushr x k hk (by omega), Int.emod_eq_of_lt h0 (by omega)]
theorem own_if {c : Prop} [Decidable c] {α : Type} {a b r : α} (h1 : c → a = r) (h2 : ¬ c → b = r) : (if c then a else b) = r := by
  by_cases h : c
  · rw [if_pos h]; exact h1 h
  · rw [if_neg h]; exact h2 h
theorem own_maskJ (x : Int64) (k : Nat) (hk : k ≤ 63) (m : Int64) (hm : m = Int64.ofNat (2 ^ k - 1)) : (x &&& m).toInt = x.toInt % (2 ^ k : Nat) := by
  subst hm
  have h1 : (x &&& Int64.ofNat (2 ^ k - 1)).toBitVec.toNat = x.toBitVec.toNat % 2 ^ k := by
    rw [Int64.toBitVec_and, BitVec.toNat_and]
    have : (Int64.ofNat (2 ^ k - 1)).toBitVec.toNat = 2 ^ k - 1 := by
      show (BitVec.ofNat 64 (2 ^ k - 1)).toNat = _
      rw [BitVec.toNat_ofNat]
      apply Nat.mod_eq_of_lt
      have : 2 ^ k ≤ 2 ^ 63 := Nat.pow_le_pow_right (by decide) hk
      omega
    rw [this, Nat.and_two_pow_sub_one_eq_mod]
  have hp : 2 ^ k ≤ 2 ^ 63 := Nat.pow_le_pow_right (by decide) hk
  have hpos : 0 < 2 ^ k := Nat.two_pow_pos k
  have hlt := Nat.mod_lt x.toBitVec.toNat hpos
  show (x &&& Int64.ofNat (2 ^ k - 1)).toBitVec.toInt = x.toBitVec.toInt % _
  rw [BitVec.toInt_eq_toNat_cond, h1, if_pos (by omega), BitVec.toInt_eq_toNat_cond]
  split
  · simp
  · have hd : (2 ^ k : Nat) ∣ 2 ^ 64 := Nat.pow_dvd_pow 2 (by omega)
    obtain ⟨q, hq⟩ := hd
    rw [Int.sub_emod, show ((2 ^ 64 : Nat) : Int) % (2 ^ k : Nat) = 0 by rw [hq]; simp]
    simp
theorem own_amtJ : ∀ k : Fin 64, ((Int32.ofNat k.val).toInt64.toUInt64 &&& Int64.toUInt64 63).toBitVec.toNat = k.val := by decide +kernel
theorem own_ushrL (x : Int64) (k : Nat) (hk : k < 64) (h0 : 0 < k) : (XT.ushrL x (Int32.ofNat k)).toInt = (x.toInt % 18446744073709551616) / (2 ^ k : Nat) := by
  have h : (XT.ushrL x (Int32.ofNat k)).toBitVec.toNat = x.toBitVec.toNat / 2 ^ k := by
    show (x.toBitVec >>> (((Int32.ofNat k).toInt64.toUInt64 &&& Int64.toUInt64 63).toBitVec % 64)).toNat = _
    rw [BitVec.ushiftRight_eq', BitVec.toNat_ushiftRight, BitVec.toNat_umod, own_amtJ ⟨k, hk⟩, Nat.shiftRight_eq_div_pow]
    show _ / 2 ^ (k % 64) = _
    rw [Nat.mod_eq_of_lt hk]
  have h1 := x.toBitVec.isLt
  have h2 : x.toBitVec.toNat / 2 ^ k ≤ x.toBitVec.toNat / 2 ^ 1 := Nat.div_le_div_left (Nat.pow_le_pow_right (by decide) h0) (by decide)
  rw [own_tointJ _ (by omega), h, ← own_tonatJ]; rfl

theorem own_64 (x : Int32) : f0_64 x = some 1 := by
  have m := own_mask x 16 (by decide) 65535 rfl
  have h1 : (i2bF (i2bF (shrI x 8))).toInt = ((x.toInt / 256 + 128) % 256 - 128 + 128) % 256 - 128 := by
    rw [own_i2b, own_i2b]
    have := own_shr x 8 (by decide)
    change (shrI x 8).toInt = x.toInt / 256 at this
    rw [this]
  have h2 := own_ushr0 (x &&& 65535) 8 (by decide) (by omega)
  rw [m] at h2
  change (XT.ushr (x &&& 65535) 8).toInt = _ at h2
  unfold f0_64 f0_94 f0_99 f1_0 f2_0
  rw [Option.bind_some]
  generalize i2bF (i2bF (shrI x 8)) = b at *
  generalize XT.ushr (x &&& 65535) 8 = t at *
  have l2 : (2 : Int32).toInt = 2 := rfl
  have l3 : (3 : Int32).toInt = 3 := rfl
  have l4 : (128 : Int32).toInt = 128 := rfl
  have l5 : (-128 : Int32).toInt = -128 := rfl
  simp only [← Int32.toInt_inj, l2, l3, l4, l5]
  repeat' split
  all_goals first | rfl | (exfalso; omega) | simp_all
theorem own_law (x0 : Int32) (x1 : Int32) (x2 : Int32) : f0_0 x0 x1 x2 = some 1 := by
  unfold f0_0
  repeat' split
  all_goals exact own_64 _

set_option maxRecDepth 65536 in
set_option maxHeartbeats 40000000 in
theorem comes_1 {Post : Tables → Env → Array Value → State → Outcome → State → Prop} (hpost : ∀ tb e args s v u, (limb_1_1.after args s (.returned v) u = true ∧ limb_1_2.after args s (.returned v) u = true ∧ True) → FrameEnd s (.returned v) u (Jvm.fieldLocs frame_1_writes args s ++ Jvm.arrayLocs frame_1_arrays args s ++ Jvm.staticLocs frame_1_statics s) 0 0 → Post tb e args s (.returned v) u) :
    ArmFor flags0 classFile x code maxLocals ret World_1 tables_1 room_1 Calls_1 rest_1 Pre_1 Post := by
  intro l hfl _ _ p e ha hc hk s m args below hf hA hF happ hP
  obtain ⟨hcalls, hrest, hpre⟩ := hP
  obtain ⟨-, -, -, hnamed, -, -, -, hat⟩ := (Spec.applies_iff hf).mp happ
  obtain ⟨hg, hn⟩ := and_e (Cond.before_iff.mp (show (Jvm.Cond.and given_1 narrow_1).before args s = true from hpre))
  obtain ⟨hcnt, q0⟩ := and_e hg
  obtain ⟨p0, q1⟩ := and_e q0
  obtain ⟨p1, q2⟩ := and_e q1
  obtain ⟨w0, w1, w2, rfl⟩ : ∃ w0 w1 w2 : Value, args = #[w0, w1, w2] := by
    have hs : args.size = 3 := by simpa [Cond.value, given_1] using hcnt
    obtain ⟨L⟩ := args
    match L, hs with
    | [w0, w1, w2], _ => exact ⟨w0, w1, w2, rfl⟩
  have hw := fun d (hd : d ∈ tables_1) => atoms_spec (ws := Jvm.Cond.code x code maxLocals ret :: tables_1) hat d (List.mem_cons_of_mem _ hd)
  obtain ⟨i0, c0⟩ := is_v p0
  obtain rfl : w0 = (.int i0) := Option.some.inj c0
  obtain ⟨i1, c1⟩ := is_v p1
  obtain rfl : w1 = (.int i1) := Option.some.inj c1
  obtain ⟨i2, c2⟩ := is_v q2
  obtain rfl : w2 = (.int i2) := Option.some.inj c2
  obtain ⟨n, o, h1, h2, h3, _, L, rfl, ⟨rfl, N⟩, hq⟩ := rm0 l s _ hw tables_1 i0 i1 i2 s.heap s.heap.size (Nat.le_refl _) 1 (own_law i0 i1 i2) p e ha hc hk s m _ below hf ((Spec.applies_iff_loose hf).mp happ).1 ⟨rfl, State.Warmed39.refl s, rfl⟩ trivial
  refine ⟨n, _, h1, h2, h3, hpost _ _ _ _ _ _ ⟨Cond.after_iff.mpr rfl, Cond.after_iff.mpr (eq_i res_at (Term.int_eval (1)) rfl), trivial⟩ ⟨hq.1, hq.2.1, (hq.2.2.sift fun y hy => Or.inr (N y hy)).mono (by decide) (by decide)⟩⟩
theorem main_1_1 : Claimed_1_1 := comes_1 fun _ _ _ _ _ _ h hF => ⟨h.1, hF⟩
theorem main_1_2 : Claimed_1_2 := comes_1 fun _ _ _ _ _ _ h hF => ⟨h.2.1, hF⟩
end Jvm.Pilot.@@N@@
namespace Jvm.Pilot.@@N@@
open Jvm Jvm.ClassFile Sem Op Lib Jvm.Free Jvm.Stand Jvm.Pilot.@@N@@.Jvm.D
/-! MADE BY PROGRAM (witnessworld.py) out of the Statement's table words and the real class files: 9 classes; the members and pool entries that the words name. The judged class is class 1, her method 1. -/
namespace start1
open Jvm.ClassFile
def u (s : String) : CpInfo := .utf8 (stringToUtf16 s)
/-- a pool by its gaps: so many unusable entries, then the entry; so many at the end -/
def gap : Nat → List CpInfo → List CpInfo
  | 0, r => r
  | n + 1, r => .unusable :: gap n r
def poolList (es : List (Nat × CpInfo)) (last : Nat) : List CpInfo := es.foldr (fun e r => gap e.1 (e.2 :: r)) (gap last [])
def pool (es : List (Nat × CpInfo)) (last : Nat) : Array CpInfo := ⟨poolList es last⟩
def fileOf (pool : Array CpInfo) (this : Nat) (attrs : Array Attribute := #[]) (ms : Array MethodInfo := #[]) (fl : Nat := 33) (sup : Nat := 0) (ifs : Array Nat := #[]) (fds : Array FieldInfo := #[]) : ClassFile where
  minorVersion := 0
  majorVersion := 65
  constantPool := pool
  accessFlags := fl
  thisClass := this
  superClass := sup
  interfaces := ifs
  fields := fds
  methods := ms
  attributes := attrs
def plain (name : String) (sup : Option ClassId) : Class where
  name := name
  kind := .ordinary
  loader := none
  accessFlags := 33
  super := sup
  interfaces := #[]
  cf := none
  fields := #[]
  methods := #[]
  instanceTypes := #[]
  staticTypes := #[]
  resolved := #[]
  callSites := []
  init := .initialized
  statics := none
  mirror := none

def pool0 : Array CpInfo := pool [(5, u "<init>"), (0, u "()V"), (1, .class_ 10), (1, u "java/lang/Object")] 113

def k0m0 : Method := { name := "<init>", desc := "()V", sig := { parameters := [], returnType := none }, accessFlags := 1, code := none }
/-- java/lang/Object -/
def k0 : Class := { plain "java/lang/Object" none with
  accessFlags := 33
  interfaces := #[]
  cf := some (fileOf pool0 8 #[] #[{ accessFlags := 1, nameIndex := 5, descriptorIndex := 6, attributes := #[] }] 33 0 #[] #[])
  fields := #[]
  methods := #[k0m0]
  instanceTypes := #[]
  staticTypes := #[]
  resolved := Array.replicate 124 none
  statics := none }

def pool1 : Array CpInfo := pool [(2, .class_ 4), (1, u "java/lang/Object"), (0, u "<init>"), (0, u "()V"), (0, .integer 32768), (0, .integer 65535), (0, .methodref 10 11), (0, .class_ 12), (0, .nameAndType 13 14), (0, u "com/example/emniyet/emniyet/engine/Tpm2"), (0, u "isContextHandle"), (0, u "(S)Z"), (0, .class_ 16), (0, u "com/example/emniyet/emniyet/engine/Tpm2IsContextHandlePinLaw"), (2, u "law"), (0, u "(III)Z")] 3

def k1m0 : Method := { name := "<init>", desc := "()V", sig := { parameters := [], returnType := none }, accessFlags := 2, code := none }
def k1c1 : Code := { maxStack := 2, maxLocals := 8, code := code, exceptionTable := #[], attributes := #[] }
def k1m1 : Method := { name := "law", desc := "(III)Z", sig := { parameters := [.int, .int, .int], returnType := some .boolean }, accessFlags := 9, code := some k1c1 }
/-- com/example/emniyet/emniyet/engine/Tpm2IsContextHandlePinLaw -/
def k1 : Class := { plain "com/example/emniyet/emniyet/engine/Tpm2IsContextHandlePinLaw" (some 0) with
  accessFlags := 49
  interfaces := #[]
  cf := some (fileOf pool1 15 #[] #[{ accessFlags := 2, nameIndex := 5, descriptorIndex := 6, attributes := #[] }, { accessFlags := 9, nameIndex := 19, descriptorIndex := 20, attributes := #[] }] 49 2 #[] #[])
  fields := #[]
  methods := #[k1m0, k1m1]
  instanceTypes := #[]
  staticTypes := #[]
  resolved := Array.replicate 24 none
  statics := none }

def pool2 : Array CpInfo := pool [(1, .class_ 2), (0, u "com/example/emniyet/emniyet/engine/Tpm2"), (1, .class_ 6), (1, u "java/lang/Object"), (0, u "<init>"), (0, u "()V"), (0, .methodref 1 10), (0, .nameAndType 11 12), (0, u "handleType"), (0, u "(S)B"), (0, u "ST_NO_SESSIONS"), (0, u "S"), (2, u "ST_SESSIONS"), (1, u "ST_ATTEST_QUOTE"), (1, u "ST_CREATION"), (1, u "ST_AUTH_SECRET"), (1, u "ST_HASHCHECK"), (1, u "CC_NV_UNDEFINE_SPACE"), (1, u "CC_CLEAR"), (1, u "CC_HIERARCHY_CHANGE_AUTH"), (1, u "CC_NV_DEFINE_SPACE"), (1, u "CC_CREATE_PRIMARY"), (1, u "CC_NV_INCREMENT"), (1, u "CC_NV_WRITE"), (1, u "CC_INCREMENTAL_SELF_TEST"), (1, u "CC_SELF_TEST"), (1, u "CC_STARTUP"), (1, u "CC_NV_READ"), (1, u "CC_POLICY_SECRET"), (1, u "CC_CREATE"), (1, u "CC_LOAD"), (1, u "CC_QUOTE"), (1, u "CC_SIGN"), (1, u "CC_UNSEAL"), (1, u "CC_CONTEXT_LOAD"), (1, u "CC_CONTEXT_SAVE"), (1, u "CC_FLUSH_CONTEXT"), (1, u "CC_NV_READ_PUBLIC"), (1, u "CC_READ_PUBLIC"), (1, u "CC_START_AUTH_SESSION"), (1, u "CC_PCR_EXTEND"), (1, u "CC_GET_CAPABILITY"), (1, u "CC_GET_RANDOM"), (1, u "CC_GET_TEST_RESULT"), (1, u "CC_HASH"), (1, u "CC_PCR_READ"), (1, u "CC_POLICY_PCR"), (1, u "CC_POLICY_GET_DIGEST"), (1, u "SU_CLEAR"), (1, u "SE_HMAC"), (0, u "B"), (0, u "SE_POLICY"), (1, u "SE_TRIAL"), (1, u "ALG_SHA1"), (1, u "ALG_HMAC"), (1, u "ALG_AES"), (1, u "ALG_KEYEDHASH"), (1, u "ALG_SHA256"), (1, u "ALG_NULL"), (1, u "ALG_ECDSA"), (1, u "ALG_KDF1_SP800_108"), (1, u "ALG_ECC"), (1, u "ALG_CFB"), (1, u "ECC_NIST_P256"), (0, u "CAP_ALGS"), (0, u "CAP_HANDLES"), (0, u "CAP_PCRS"), (0, u "CAP_TPM_PROPERTIES"), (0, u "PT_FAMILY_INDICATOR"), (1, u "PT_LEVEL"), (1, u "PT_REVISION"), (1, u "PT_MANUFACTURER"), (1, u "PT_VENDOR_STRING_1"), (1, u "PT_VENDOR_STRING_2"), (1, u "PT_INPUT_BUFFER"), (1, u "PT_PCR_COUNT"), (1, u "PT_PCR_SELECT_MIN"), (1, u "PT_NV_INDEX_MAX"), (1, u "PT_MAX_COMMAND_SIZE"), (1, u "PT_MAX_RESPONSE_SIZE"), (1, u "PT_MAX_DIGEST"), (1, u "PT_NV_BUFFER_MAX"), (1, u "NO"), (0, u "YES"), (0, u "PERMANENT_HIGH"), (1, u "RH_OWNER_LOW"), (0, u "RH_NULL_LOW"), (1, u "RH_LOCKOUT_LOW"), (1, u "RH_ENDORSEMENT_LOW"), (0, u "RH_PLATFORM_LOW"), (1, u "RS_PW_LOW"), (1, u "GENERATED_VALUE_HIGH"), (1, u "GENERATED_VALUE_LOW"), (1, u "HT_PCR"), (0, u "HT_NV_INDEX"), (0, u "HT_HMAC_SESSION"), (1, u "HT_POLICY_SESSION"), (0, u "HT_LOADED_SESSION"), (0, u "HT_SAVED_SESSION"), (0, u "HT_PERMANENT"), (1, u "HT_TRANSIENT"), (1, u "HT_PERSISTENT"), (1, u "NV_PPWRITE"), (0, u "NV_OWNERWRITE"), (0, u "NV_AUTHWRITE"), (0, u "NV_POLICYWRITE"), (0, u "NV_TPM_NT"), (1, u "NV_TPM_NT_SHIFT"), (0, u "NV_LOW_RESERVED"), (1, u "NV_POLICY_DELETE"), (1, u "NV_WRITELOCKED"), (1, u "NV_WRITEALL"), (1, u "NV_PPREAD_HIGH"), (0, u "NV_OWNERREAD_HIGH"), (0, u "NV_AUTHREAD_HIGH"), (0, u "NV_POLICYREAD_HIGH"), (0, u "NV_HIGH_RESERVED"), (1, u "NV_CLEAR_STCLEAR_HIGH"), (0, u "NV_READLOCKED_HIGH"), (0, u "NV_WRITTEN_HIGH"), (1, u "NV_PLATFORMCREATE_HIGH"), (0, u "NT_ORDINARY"), (0, u "NT_COUNTER"), (0, u "ALGORITHM_ASYMMETRIC"), (0, u "ALGORITHM_SYMMETRIC"), (0, u "ALGORITHM_HASH"), (0, u "ALGORITHM_OBJECT"), (0, u "ALGORITHM_SIGNING"), (0, u "ALGORITHM_ENCRYPTING"), (1, u "ALGORITHM_METHOD"), (0, u "OBJECT_FIXED_TPM"), (0, u "OBJECT_ST_CLEAR"), (0, u "OBJECT_FIXED_PARENT"), (0, u "OBJECT_SENSITIVE_DATA_ORIGIN"), (1, u "OBJECT_USER_WITH_AUTH"), (0, u "OBJECT_LOW_RESERVED"), (1, u "OBJECT_RESTRICTED_HIGH"), (0, u "OBJECT_DECRYPT_HIGH"), (0, u "OBJECT_SIGN_HIGH"), (0, u "OBJECT_X509SIGN_HIGH"), (0, u "OBJECT_HIGH_RESERVED"), (1, u "SESSION_CONTINUE"), (0, u "SESSION_AUDIT_EXCLUSIVE"), (0, u "SESSION_AUDIT_RESET"), (0, u "SESSION_RESERVED"), (0, u "SESSION_DECRYPT"), (0, u "SESSION_ENCRYPT"), (0, u "SESSION_AUDIT"), (0, u "MAX_DIGEST_SIZE"), (0, u "MAX_DATA_SIZE"), (0, u "MAX_SYM_DATA"), (1, u "MAX_BUFFER_SIZE"), (0, u "MAX_NV_BUFFER_SIZE"), (0, u "MAX_NV_INDEX_SIZE"), (2, u "isContextHandle"), (0, u "(S)Z")] 3

def k2m0 : Method := { name := "<init>", desc := "()V", sig := { parameters := [], returnType := none }, accessFlags := 2, code := none }
def k2c1 : Code := { maxStack := 2, maxLocals := 1, code := prog_7_method_2_code, exceptionTable := #[], attributes := #[] }
def k2m1 : Method := { name := "handleType", desc := "(S)B", sig := { parameters := [.short], returnType := some .byte }, accessFlags := 9, code := some k2c1 }
def k2c2 : Code := { maxStack := 2, maxLocals := 2, code := prog_7_method_3_code, exceptionTable := #[], attributes := #[] }
def k2m2 : Method := { name := "isContextHandle", desc := "(S)Z", sig := { parameters := [.short], returnType := some .boolean }, accessFlags := 9, code := some k2c2 }
/-- com/example/emniyet/emniyet/engine/Tpm2 -/
def k2 : Class := { plain "com/example/emniyet/emniyet/engine/Tpm2" (some 0) with
  accessFlags := 33
  interfaces := #[]
  cf := some (fileOf pool2 1 #[] #[{ accessFlags := 2, nameIndex := 7, descriptorIndex := 8, attributes := #[] }, { accessFlags := 9, nameIndex := 11, descriptorIndex := 12, attributes := #[] }, { accessFlags := 9, nameIndex := 247, descriptorIndex := 248, attributes := #[] }] 33 4 #[] #[{ accessFlags := 25, nameIndex := 13, descriptorIndex := 14, attributes := #[] }, { accessFlags := 25, nameIndex := 17, descriptorIndex := 14, attributes := #[] }, { accessFlags := 25, nameIndex := 19, descriptorIndex := 14, attributes := #[] }, { accessFlags := 25, nameIndex := 21, descriptorIndex := 14, attributes := #[] }, { accessFlags := 25, nameIndex := 23, descriptorIndex := 14, attributes := #[] }, { accessFlags := 25, nameIndex := 25, descriptorIndex := 14, attributes := #[] }, { accessFlags := 25, nameIndex := 27, descriptorIndex := 14, attributes := #[] }, { accessFlags := 25, nameIndex := 29, descriptorIndex := 14, attributes := #[] }, { accessFlags := 25, nameIndex := 31, descriptorIndex := 14, attributes := #[] }, { accessFlags := 25, nameIndex := 33, descriptorIndex := 14, attributes := #[] }, { accessFlags := 25, nameIndex := 35, descriptorIndex := 14, attributes := #[] }, { accessFlags := 25, nameIndex := 37, descriptorIndex := 14, attributes := #[] }, { accessFlags := 25, nameIndex := 39, descriptorIndex := 14, attributes := #[] }, { accessFlags := 25, nameIndex := 41, descriptorIndex := 14, attributes := #[] }, { accessFlags := 25, nameIndex := 43, descriptorIndex := 14, attributes := #[] }, { accessFlags := 25, nameIndex := 45, descriptorIndex := 14, attributes := #[] }, { accessFlags := 25, nameIndex := 47, descriptorIndex := 14, attributes := #[] }, { accessFlags := 25, nameIndex := 49, descriptorIndex := 14, attributes := #[] }, { accessFlags := 25, nameIndex := 51, descriptorIndex := 14, attributes := #[] }, { accessFlags := 25, nameIndex := 53, descriptorIndex := 14, attributes := #[] }, { accessFlags := 25, nameIndex := 55, descriptorIndex := 14, attributes := #[] }, { accessFlags := 25, nameIndex := 57, descriptorIndex := 14, attributes := #[] }, { accessFlags := 25, nameIndex := 59, descriptorIndex := 14, attributes := #[] }, { accessFlags := 25, nameIndex := 61, descriptorIndex := 14, attributes := #[] }, { accessFlags := 25, nameIndex := 63, descriptorIndex := 14, attributes := #[] }, { accessFlags := 25, nameIndex := 65, descriptorIndex := 14, attributes := #[] }, { accessFlags := 25, nameIndex := 67, descriptorIndex := 14, attributes := #[] }, { accessFlags := 25, nameIndex := 69, descriptorIndex := 14, attributes := #[] }, { accessFlags := 25, nameIndex := 71, descriptorIndex := 14, attributes := #[] }, { accessFlags := 25, nameIndex := 73, descriptorIndex := 14, attributes := #[] }, { accessFlags := 25, nameIndex := 75, descriptorIndex := 14, attributes := #[] }, { accessFlags := 25, nameIndex := 77, descriptorIndex := 14, attributes := #[] }, { accessFlags := 25, nameIndex := 79, descriptorIndex := 14, attributes := #[] }, { accessFlags := 25, nameIndex := 81, descriptorIndex := 14, attributes := #[] }, { accessFlags := 25, nameIndex := 83, descriptorIndex := 14, attributes := #[] }, { accessFlags := 25, nameIndex := 85, descriptorIndex := 14, attributes := #[] }, { accessFlags := 25, nameIndex := 87, descriptorIndex := 14, attributes := #[] }, { accessFlags := 25, nameIndex := 89, descriptorIndex := 14, attributes := #[] }, { accessFlags := 25, nameIndex := 91, descriptorIndex := 92, attributes := #[] }, { accessFlags := 25, nameIndex := 93, descriptorIndex := 92, attributes := #[] }, { accessFlags := 25, nameIndex := 95, descriptorIndex := 92, attributes := #[] }, { accessFlags := 25, nameIndex := 97, descriptorIndex := 14, attributes := #[] }, { accessFlags := 25, nameIndex := 99, descriptorIndex := 14, attributes := #[] }, { accessFlags := 25, nameIndex := 101, descriptorIndex := 14, attributes := #[] }, { accessFlags := 25, nameIndex := 103, descriptorIndex := 14, attributes := #[] }, { accessFlags := 25, nameIndex := 105, descriptorIndex := 14, attributes := #[] }, { accessFlags := 25, nameIndex := 107, descriptorIndex := 14, attributes := #[] }, { accessFlags := 25, nameIndex := 109, descriptorIndex := 14, attributes := #[] }, { accessFlags := 25, nameIndex := 111, descriptorIndex := 14, attributes := #[] }, { accessFlags := 25, nameIndex := 113, descriptorIndex := 14, attributes := #[] }, { accessFlags := 25, nameIndex := 115, descriptorIndex := 14, attributes := #[] }, { accessFlags := 25, nameIndex := 117, descriptorIndex := 14, attributes := #[] }, { accessFlags := 25, nameIndex := 118, descriptorIndex := 14, attributes := #[] }, { accessFlags := 25, nameIndex := 119, descriptorIndex := 14, attributes := #[] }, { accessFlags := 25, nameIndex := 120, descriptorIndex := 14, attributes := #[] }, { accessFlags := 25, nameIndex := 121, descriptorIndex := 14, attributes := #[] }, { accessFlags := 25, nameIndex := 122, descriptorIndex := 14, attributes := #[] }, { accessFlags := 25, nameIndex := 124, descriptorIndex := 14, attributes := #[] }, { accessFlags := 25, nameIndex := 126, descriptorIndex := 14, attributes := #[] }, { accessFlags := 25, nameIndex := 128, descriptorIndex := 14, attributes := #[] }, { accessFlags := 25, nameIndex := 130, descriptorIndex := 14, attributes := #[] }, { accessFlags := 25, nameIndex := 132, descriptorIndex := 14, attributes := #[] }, { accessFlags := 25, nameIndex := 134, descriptorIndex := 14, attributes := #[] }, { accessFlags := 25, nameIndex := 136, descriptorIndex := 14, attributes := #[] }, { accessFlags := 25, nameIndex := 138, descriptorIndex := 14, attributes := #[] }, { accessFlags := 25, nameIndex := 140, descriptorIndex := 14, attributes := #[] }, { accessFlags := 25, nameIndex := 142, descriptorIndex := 14, attributes := #[] }, { accessFlags := 25, nameIndex := 144, descriptorIndex := 14, attributes := #[] }, { accessFlags := 25, nameIndex := 146, descriptorIndex := 14, attributes := #[] }, { accessFlags := 25, nameIndex := 148, descriptorIndex := 14, attributes := #[] }, { accessFlags := 25, nameIndex := 150, descriptorIndex := 92, attributes := #[] }, { accessFlags := 25, nameIndex := 151, descriptorIndex := 92, attributes := #[] }, { accessFlags := 25, nameIndex := 152, descriptorIndex := 14, attributes := #[] }, { accessFlags := 25, nameIndex := 154, descriptorIndex := 14, attributes := #[] }, { accessFlags := 25, nameIndex := 155, descriptorIndex := 14, attributes := #[] }, { accessFlags := 25, nameIndex := 157, descriptorIndex := 14, attributes := #[] }, { accessFlags := 25, nameIndex := 159, descriptorIndex := 14, attributes := #[] }, { accessFlags := 25, nameIndex := 160, descriptorIndex := 14, attributes := #[] }, { accessFlags := 25, nameIndex := 162, descriptorIndex := 14, attributes := #[] }, { accessFlags := 25, nameIndex := 164, descriptorIndex := 14, attributes := #[] }, { accessFlags := 25, nameIndex := 166, descriptorIndex := 14, attributes := #[] }, { accessFlags := 25, nameIndex := 168, descriptorIndex := 92, attributes := #[] }, { accessFlags := 25, nameIndex := 169, descriptorIndex := 92, attributes := #[] }, { accessFlags := 25, nameIndex := 170, descriptorIndex := 92, attributes := #[] }, { accessFlags := 25, nameIndex := 172, descriptorIndex := 92, attributes := #[] }, { accessFlags := 25, nameIndex := 173, descriptorIndex := 92, attributes := #[] }, { accessFlags := 25, nameIndex := 174, descriptorIndex := 92, attributes := #[] }, { accessFlags := 25, nameIndex := 175, descriptorIndex := 92, attributes := #[] }, { accessFlags := 25, nameIndex := 177, descriptorIndex := 92, attributes := #[] }, { accessFlags := 25, nameIndex := 179, descriptorIndex := 92, attributes := #[] }, { accessFlags := 25, nameIndex := 181, descriptorIndex := 14, attributes := #[] }, { accessFlags := 25, nameIndex := 182, descriptorIndex := 14, attributes := #[] }, { accessFlags := 25, nameIndex := 183, descriptorIndex := 14, attributes := #[] }, { accessFlags := 25, nameIndex := 184, descriptorIndex := 14, attributes := #[] }, { accessFlags := 25, nameIndex := 185, descriptorIndex := 14, attributes := #[] }, { accessFlags := 25, nameIndex := 187, descriptorIndex := 14, attributes := #[] }, { accessFlags := 25, nameIndex := 188, descriptorIndex := 14, attributes := #[] }, { accessFlags := 25, nameIndex := 190, descriptorIndex := 14, attributes := #[] }, { accessFlags := 25, nameIndex := 192, descriptorIndex := 14, attributes := #[] }, { accessFlags := 25, nameIndex := 194, descriptorIndex := 14, attributes := #[] }, { accessFlags := 25, nameIndex := 196, descriptorIndex := 14, attributes := #[] }, { accessFlags := 25, nameIndex := 197, descriptorIndex := 14, attributes := #[] }, { accessFlags := 25, nameIndex := 198, descriptorIndex := 14, attributes := #[] }, { accessFlags := 25, nameIndex := 199, descriptorIndex := 14, attributes := #[] }, { accessFlags := 25, nameIndex := 200, descriptorIndex := 14, attributes := #[] }, { accessFlags := 25, nameIndex := 202, descriptorIndex := 14, attributes := #[] }, { accessFlags := 25, nameIndex := 203, descriptorIndex := 14, attributes := #[] }, { accessFlags := 25, nameIndex := 204, descriptorIndex := 14, attributes := #[] }, { accessFlags := 25, nameIndex := 206, descriptorIndex := 14, attributes := #[] }, { accessFlags := 25, nameIndex := 207, descriptorIndex := 14, attributes := #[] }, { accessFlags := 25, nameIndex := 208, descriptorIndex := 14, attributes := #[] }, { accessFlags := 25, nameIndex := 209, descriptorIndex := 14, attributes := #[] }, { accessFlags := 25, nameIndex := 210, descriptorIndex := 14, attributes := #[] }, { accessFlags := 25, nameIndex := 211, descriptorIndex := 14, attributes := #[] }, { accessFlags := 25, nameIndex := 212, descriptorIndex := 14, attributes := #[] }, { accessFlags := 25, nameIndex := 213, descriptorIndex := 14, attributes := #[] }, { accessFlags := 25, nameIndex := 214, descriptorIndex := 14, attributes := #[] }, { accessFlags := 25, nameIndex := 216, descriptorIndex := 14, attributes := #[] }, { accessFlags := 25, nameIndex := 217, descriptorIndex := 14, attributes := #[] }, { accessFlags := 25, nameIndex := 218, descriptorIndex := 14, attributes := #[] }, { accessFlags := 25, nameIndex := 219, descriptorIndex := 14, attributes := #[] }, { accessFlags := 25, nameIndex := 220, descriptorIndex := 14, attributes := #[] }, { accessFlags := 25, nameIndex := 222, descriptorIndex := 14, attributes := #[] }, { accessFlags := 25, nameIndex := 223, descriptorIndex := 14, attributes := #[] }, { accessFlags := 25, nameIndex := 225, descriptorIndex := 14, attributes := #[] }, { accessFlags := 25, nameIndex := 226, descriptorIndex := 14, attributes := #[] }, { accessFlags := 25, nameIndex := 227, descriptorIndex := 14, attributes := #[] }, { accessFlags := 25, nameIndex := 228, descriptorIndex := 14, attributes := #[] }, { accessFlags := 25, nameIndex := 229, descriptorIndex := 14, attributes := #[] }, { accessFlags := 25, nameIndex := 231, descriptorIndex := 92, attributes := #[] }, { accessFlags := 25, nameIndex := 232, descriptorIndex := 92, attributes := #[] }, { accessFlags := 25, nameIndex := 233, descriptorIndex := 92, attributes := #[] }, { accessFlags := 25, nameIndex := 234, descriptorIndex := 92, attributes := #[] }, { accessFlags := 25, nameIndex := 235, descriptorIndex := 92, attributes := #[] }, { accessFlags := 25, nameIndex := 236, descriptorIndex := 92, attributes := #[] }, { accessFlags := 25, nameIndex := 237, descriptorIndex := 92, attributes := #[] }, { accessFlags := 25, nameIndex := 238, descriptorIndex := 14, attributes := #[] }, { accessFlags := 25, nameIndex := 239, descriptorIndex := 14, attributes := #[] }, { accessFlags := 25, nameIndex := 240, descriptorIndex := 14, attributes := #[] }, { accessFlags := 25, nameIndex := 242, descriptorIndex := 14, attributes := #[] }, { accessFlags := 25, nameIndex := 243, descriptorIndex := 14, attributes := #[] }, { accessFlags := 25, nameIndex := 244, descriptorIndex := 14, attributes := #[] }])
  fields := #[{ name := "ST_NO_SESSIONS", type := .short, accessFlags := 25, slot := 0, constantValue := 0 }, { name := "ST_SESSIONS", type := .short, accessFlags := 25, slot := 1, constantValue := 0 }, { name := "ST_ATTEST_QUOTE", type := .short, accessFlags := 25, slot := 2, constantValue := 0 }, { name := "ST_CREATION", type := .short, accessFlags := 25, slot := 3, constantValue := 0 }, { name := "ST_AUTH_SECRET", type := .short, accessFlags := 25, slot := 4, constantValue := 0 }, { name := "ST_HASHCHECK", type := .short, accessFlags := 25, slot := 5, constantValue := 0 }, { name := "CC_NV_UNDEFINE_SPACE", type := .short, accessFlags := 25, slot := 6, constantValue := 0 }, { name := "CC_CLEAR", type := .short, accessFlags := 25, slot := 7, constantValue := 0 }, { name := "CC_HIERARCHY_CHANGE_AUTH", type := .short, accessFlags := 25, slot := 8, constantValue := 0 }, { name := "CC_NV_DEFINE_SPACE", type := .short, accessFlags := 25, slot := 9, constantValue := 0 }, { name := "CC_CREATE_PRIMARY", type := .short, accessFlags := 25, slot := 10, constantValue := 0 }, { name := "CC_NV_INCREMENT", type := .short, accessFlags := 25, slot := 11, constantValue := 0 }, { name := "CC_NV_WRITE", type := .short, accessFlags := 25, slot := 12, constantValue := 0 }, { name := "CC_INCREMENTAL_SELF_TEST", type := .short, accessFlags := 25, slot := 13, constantValue := 0 }, { name := "CC_SELF_TEST", type := .short, accessFlags := 25, slot := 14, constantValue := 0 }, { name := "CC_STARTUP", type := .short, accessFlags := 25, slot := 15, constantValue := 0 }, { name := "CC_NV_READ", type := .short, accessFlags := 25, slot := 16, constantValue := 0 }, { name := "CC_POLICY_SECRET", type := .short, accessFlags := 25, slot := 17, constantValue := 0 }, { name := "CC_CREATE", type := .short, accessFlags := 25, slot := 18, constantValue := 0 }, { name := "CC_LOAD", type := .short, accessFlags := 25, slot := 19, constantValue := 0 }, { name := "CC_QUOTE", type := .short, accessFlags := 25, slot := 20, constantValue := 0 }, { name := "CC_SIGN", type := .short, accessFlags := 25, slot := 21, constantValue := 0 }, { name := "CC_UNSEAL", type := .short, accessFlags := 25, slot := 22, constantValue := 0 }, { name := "CC_CONTEXT_LOAD", type := .short, accessFlags := 25, slot := 23, constantValue := 0 }, { name := "CC_CONTEXT_SAVE", type := .short, accessFlags := 25, slot := 24, constantValue := 0 }, { name := "CC_FLUSH_CONTEXT", type := .short, accessFlags := 25, slot := 25, constantValue := 0 }, { name := "CC_NV_READ_PUBLIC", type := .short, accessFlags := 25, slot := 26, constantValue := 0 }, { name := "CC_READ_PUBLIC", type := .short, accessFlags := 25, slot := 27, constantValue := 0 }, { name := "CC_START_AUTH_SESSION", type := .short, accessFlags := 25, slot := 28, constantValue := 0 }, { name := "CC_PCR_EXTEND", type := .short, accessFlags := 25, slot := 29, constantValue := 0 }, { name := "CC_GET_CAPABILITY", type := .short, accessFlags := 25, slot := 30, constantValue := 0 }, { name := "CC_GET_RANDOM", type := .short, accessFlags := 25, slot := 31, constantValue := 0 }, { name := "CC_GET_TEST_RESULT", type := .short, accessFlags := 25, slot := 32, constantValue := 0 }, { name := "CC_HASH", type := .short, accessFlags := 25, slot := 33, constantValue := 0 }, { name := "CC_PCR_READ", type := .short, accessFlags := 25, slot := 34, constantValue := 0 }, { name := "CC_POLICY_PCR", type := .short, accessFlags := 25, slot := 35, constantValue := 0 }, { name := "CC_POLICY_GET_DIGEST", type := .short, accessFlags := 25, slot := 36, constantValue := 0 }, { name := "SU_CLEAR", type := .short, accessFlags := 25, slot := 37, constantValue := 0 }, { name := "SE_HMAC", type := .byte, accessFlags := 25, slot := 38, constantValue := 0 }, { name := "SE_POLICY", type := .byte, accessFlags := 25, slot := 39, constantValue := 0 }, { name := "SE_TRIAL", type := .byte, accessFlags := 25, slot := 40, constantValue := 0 }, { name := "ALG_SHA1", type := .short, accessFlags := 25, slot := 41, constantValue := 0 }, { name := "ALG_HMAC", type := .short, accessFlags := 25, slot := 42, constantValue := 0 }, { name := "ALG_AES", type := .short, accessFlags := 25, slot := 43, constantValue := 0 }, { name := "ALG_KEYEDHASH", type := .short, accessFlags := 25, slot := 44, constantValue := 0 }, { name := "ALG_SHA256", type := .short, accessFlags := 25, slot := 45, constantValue := 0 }, { name := "ALG_NULL", type := .short, accessFlags := 25, slot := 46, constantValue := 0 }, { name := "ALG_ECDSA", type := .short, accessFlags := 25, slot := 47, constantValue := 0 }, { name := "ALG_KDF1_SP800_108", type := .short, accessFlags := 25, slot := 48, constantValue := 0 }, { name := "ALG_ECC", type := .short, accessFlags := 25, slot := 49, constantValue := 0 }, { name := "ALG_CFB", type := .short, accessFlags := 25, slot := 50, constantValue := 0 }, { name := "ECC_NIST_P256", type := .short, accessFlags := 25, slot := 51, constantValue := 0 }, { name := "CAP_ALGS", type := .short, accessFlags := 25, slot := 52, constantValue := 0 }, { name := "CAP_HANDLES", type := .short, accessFlags := 25, slot := 53, constantValue := 0 }, { name := "CAP_PCRS", type := .short, accessFlags := 25, slot := 54, constantValue := 0 }, { name := "CAP_TPM_PROPERTIES", type := .short, accessFlags := 25, slot := 55, constantValue := 0 }, { name := "PT_FAMILY_INDICATOR", type := .short, accessFlags := 25, slot := 56, constantValue := 0 }, { name := "PT_LEVEL", type := .short, accessFlags := 25, slot := 57, constantValue := 0 }, { name := "PT_REVISION", type := .short, accessFlags := 25, slot := 58, constantValue := 0 }, { name := "PT_MANUFACTURER", type := .short, accessFlags := 25, slot := 59, constantValue := 0 }, { name := "PT_VENDOR_STRING_1", type := .short, accessFlags := 25, slot := 60, constantValue := 0 }, { name := "PT_VENDOR_STRING_2", type := .short, accessFlags := 25, slot := 61, constantValue := 0 }, { name := "PT_INPUT_BUFFER", type := .short, accessFlags := 25, slot := 62, constantValue := 0 }, { name := "PT_PCR_COUNT", type := .short, accessFlags := 25, slot := 63, constantValue := 0 }, { name := "PT_PCR_SELECT_MIN", type := .short, accessFlags := 25, slot := 64, constantValue := 0 }, { name := "PT_NV_INDEX_MAX", type := .short, accessFlags := 25, slot := 65, constantValue := 0 }, { name := "PT_MAX_COMMAND_SIZE", type := .short, accessFlags := 25, slot := 66, constantValue := 0 }, { name := "PT_MAX_RESPONSE_SIZE", type := .short, accessFlags := 25, slot := 67, constantValue := 0 }, { name := "PT_MAX_DIGEST", type := .short, accessFlags := 25, slot := 68, constantValue := 0 }, { name := "PT_NV_BUFFER_MAX", type := .short, accessFlags := 25, slot := 69, constantValue := 0 }, { name := "NO", type := .byte, accessFlags := 25, slot := 70, constantValue := 0 }, { name := "YES", type := .byte, accessFlags := 25, slot := 71, constantValue := 0 }, { name := "PERMANENT_HIGH", type := .short, accessFlags := 25, slot := 72, constantValue := 0 }, { name := "RH_OWNER_LOW", type := .short, accessFlags := 25, slot := 73, constantValue := 0 }, { name := "RH_NULL_LOW", type := .short, accessFlags := 25, slot := 74, constantValue := 0 }, { name := "RH_LOCKOUT_LOW", type := .short, accessFlags := 25, slot := 75, constantValue := 0 }, { name := "RH_ENDORSEMENT_LOW", type := .short, accessFlags := 25, slot := 76, constantValue := 0 }, { name := "RH_PLATFORM_LOW", type := .short, accessFlags := 25, slot := 77, constantValue := 0 }, { name := "RS_PW_LOW", type := .short, accessFlags := 25, slot := 78, constantValue := 0 }, { name := "GENERATED_VALUE_HIGH", type := .short, accessFlags := 25, slot := 79, constantValue := 0 }, { name := "GENERATED_VALUE_LOW", type := .short, accessFlags := 25, slot := 80, constantValue := 0 }, { name := "HT_PCR", type := .byte, accessFlags := 25, slot := 81, constantValue := 0 }, { name := "HT_NV_INDEX", type := .byte, accessFlags := 25, slot := 82, constantValue := 0 }, { name := "HT_HMAC_SESSION", type := .byte, accessFlags := 25, slot := 83, constantValue := 0 }, { name := "HT_POLICY_SESSION", type := .byte, accessFlags := 25, slot := 84, constantValue := 0 }, { name := "HT_LOADED_SESSION", type := .byte, accessFlags := 25, slot := 85, constantValue := 0 }, { name := "HT_SAVED_SESSION", type := .byte, accessFlags := 25, slot := 86, constantValue := 0 }, { name := "HT_PERMANENT", type := .byte, accessFlags := 25, slot := 87, constantValue := 0 }, { name := "HT_TRANSIENT", type := .byte, accessFlags := 25, slot := 88, constantValue := 0 }, { name := "HT_PERSISTENT", type := .byte, accessFlags := 25, slot := 89, constantValue := 0 }, { name := "NV_PPWRITE", type := .short, accessFlags := 25, slot := 90, constantValue := 0 }, { name := "NV_OWNERWRITE", type := .short, accessFlags := 25, slot := 91, constantValue := 0 }, { name := "NV_AUTHWRITE", type := .short, accessFlags := 25, slot := 92, constantValue := 0 }, { name := "NV_POLICYWRITE", type := .short, accessFlags := 25, slot := 93, constantValue := 0 }, { name := "NV_TPM_NT", type := .short, accessFlags := 25, slot := 94, constantValue := 0 }, { name := "NV_TPM_NT_SHIFT", type := .short, accessFlags := 25, slot := 95, constantValue := 0 }, { name := "NV_LOW_RESERVED", type := .short, accessFlags := 25, slot := 96, constantValue := 0 }, { name := "NV_POLICY_DELETE", type := .short, accessFlags := 25, slot := 97, constantValue := 0 }, { name := "NV_WRITELOCKED", type := .short, accessFlags := 25, slot := 98, constantValue := 0 }, { name := "NV_WRITEALL", type := .short, accessFlags := 25, slot := 99, constantValue := 0 }, { name := "NV_PPREAD_HIGH", type := .short, accessFlags := 25, slot := 100, constantValue := 0 }, { name := "NV_OWNERREAD_HIGH", type := .short, accessFlags := 25, slot := 101, constantValue := 0 }, { name := "NV_AUTHREAD_HIGH", type := .short, accessFlags := 25, slot := 102, constantValue := 0 }, { name := "NV_POLICYREAD_HIGH", type := .short, accessFlags := 25, slot := 103, constantValue := 0 }, { name := "NV_HIGH_RESERVED", type := .short, accessFlags := 25, slot := 104, constantValue := 0 }, { name := "NV_CLEAR_STCLEAR_HIGH", type := .short, accessFlags := 25, slot := 105, constantValue := 0 }, { name := "NV_READLOCKED_HIGH", type := .short, accessFlags := 25, slot := 106, constantValue := 0 }, { name := "NV_WRITTEN_HIGH", type := .short, accessFlags := 25, slot := 107, constantValue := 0 }, { name := "NV_PLATFORMCREATE_HIGH", type := .short, accessFlags := 25, slot := 108, constantValue := 0 }, { name := "NT_ORDINARY", type := .short, accessFlags := 25, slot := 109, constantValue := 0 }, { name := "NT_COUNTER", type := .short, accessFlags := 25, slot := 110, constantValue := 0 }, { name := "ALGORITHM_ASYMMETRIC", type := .short, accessFlags := 25, slot := 111, constantValue := 0 }, { name := "ALGORITHM_SYMMETRIC", type := .short, accessFlags := 25, slot := 112, constantValue := 0 }, { name := "ALGORITHM_HASH", type := .short, accessFlags := 25, slot := 113, constantValue := 0 }, { name := "ALGORITHM_OBJECT", type := .short, accessFlags := 25, slot := 114, constantValue := 0 }, { name := "ALGORITHM_SIGNING", type := .short, accessFlags := 25, slot := 115, constantValue := 0 }, { name := "ALGORITHM_ENCRYPTING", type := .short, accessFlags := 25, slot := 116, constantValue := 0 }, { name := "ALGORITHM_METHOD", type := .short, accessFlags := 25, slot := 117, constantValue := 0 }, { name := "OBJECT_FIXED_TPM", type := .short, accessFlags := 25, slot := 118, constantValue := 0 }, { name := "OBJECT_ST_CLEAR", type := .short, accessFlags := 25, slot := 119, constantValue := 0 }, { name := "OBJECT_FIXED_PARENT", type := .short, accessFlags := 25, slot := 120, constantValue := 0 }, { name := "OBJECT_SENSITIVE_DATA_ORIGIN", type := .short, accessFlags := 25, slot := 121, constantValue := 0 }, { name := "OBJECT_USER_WITH_AUTH", type := .short, accessFlags := 25, slot := 122, constantValue := 0 }, { name := "OBJECT_LOW_RESERVED", type := .short, accessFlags := 25, slot := 123, constantValue := 0 }, { name := "OBJECT_RESTRICTED_HIGH", type := .short, accessFlags := 25, slot := 124, constantValue := 0 }, { name := "OBJECT_DECRYPT_HIGH", type := .short, accessFlags := 25, slot := 125, constantValue := 0 }, { name := "OBJECT_SIGN_HIGH", type := .short, accessFlags := 25, slot := 126, constantValue := 0 }, { name := "OBJECT_X509SIGN_HIGH", type := .short, accessFlags := 25, slot := 127, constantValue := 0 }, { name := "OBJECT_HIGH_RESERVED", type := .short, accessFlags := 25, slot := 128, constantValue := 0 }, { name := "SESSION_CONTINUE", type := .byte, accessFlags := 25, slot := 129, constantValue := 0 }, { name := "SESSION_AUDIT_EXCLUSIVE", type := .byte, accessFlags := 25, slot := 130, constantValue := 0 }, { name := "SESSION_AUDIT_RESET", type := .byte, accessFlags := 25, slot := 131, constantValue := 0 }, { name := "SESSION_RESERVED", type := .byte, accessFlags := 25, slot := 132, constantValue := 0 }, { name := "SESSION_DECRYPT", type := .byte, accessFlags := 25, slot := 133, constantValue := 0 }, { name := "SESSION_ENCRYPT", type := .byte, accessFlags := 25, slot := 134, constantValue := 0 }, { name := "SESSION_AUDIT", type := .byte, accessFlags := 25, slot := 135, constantValue := 0 }, { name := "MAX_DIGEST_SIZE", type := .short, accessFlags := 25, slot := 136, constantValue := 0 }, { name := "MAX_DATA_SIZE", type := .short, accessFlags := 25, slot := 137, constantValue := 0 }, { name := "MAX_SYM_DATA", type := .short, accessFlags := 25, slot := 138, constantValue := 0 }, { name := "MAX_BUFFER_SIZE", type := .short, accessFlags := 25, slot := 139, constantValue := 0 }, { name := "MAX_NV_BUFFER_SIZE", type := .short, accessFlags := 25, slot := 140, constantValue := 0 }, { name := "MAX_NV_INDEX_SIZE", type := .short, accessFlags := 25, slot := 141, constantValue := 0 }]
  methods := #[k2m0, k2m1, k2m2]
  instanceTypes := #[]
  staticTypes := #[.short, .short, .short, .short, .short, .short, .short, .short, .short, .short, .short, .short, .short, .short, .short, .short, .short, .short, .short, .short, .short, .short, .short, .short, .short, .short, .short, .short, .short, .short, .short, .short, .short, .short, .short, .short, .short, .short, .byte, .byte, .byte, .short, .short, .short, .short, .short, .short, .short, .short, .short, .short, .short, .short, .short, .short, .short, .short, .short, .short, .short, .short, .short, .short, .short, .short, .short, .short, .short, .short, .short, .byte, .byte, .short, .short, .short, .short, .short, .short, .short, .short, .short, .byte, .byte, .byte, .byte, .byte, .byte, .byte, .byte, .byte, .short, .short, .short, .short, .short, .short, .short, .short, .short, .short, .short, .short, .short, .short, .short, .short, .short, .short, .short, .short, .short, .short, .short, .short, .short, .short, .short, .short, .short, .short, .short, .short, .short, .short, .short, .short, .short, .short, .short, .byte, .byte, .byte, .byte, .byte, .byte, .byte, .short, .short, .short, .short, .short, .short]
  resolved := Array.replicate 252 none
  statics := none }

def pool3 : Array CpInfo := pool [(1, u "java/lang/Cloneable"), (0, .class_ 1), (0, u "java/lang/Object"), (0, .class_ 3)] 3

/-- java/lang/Cloneable -/
def k3 : Class := { plain "java/lang/Cloneable" (some 0) with
  accessFlags := 1537
  interfaces := #[]
  cf := some (fileOf pool3 2 #[] #[] 1537 4 #[] #[])
  fields := #[]
  methods := #[]
  instanceTypes := #[]
  staticTypes := #[]
  resolved := Array.replicate 8 none
  statics := none }

def pool4 : Array CpInfo := pool [(1, u "java/io/Serializable"), (0, .class_ 1), (0, u "java/lang/Object"), (0, .class_ 3)] 3

/-- java/io/Serializable -/
def k4 : Class := { plain "java/io/Serializable" (some 0) with
  accessFlags := 1537
  interfaces := #[]
  cf := some (fileOf pool4 2 #[] #[] 1537 4 #[] #[])
  fields := #[]
  methods := #[]
  instanceTypes := #[]
  staticTypes := #[]
  resolved := Array.replicate 8 none
  statics := none }

/-- the primitive byte -/
def k5 : Class := { plain "byte" none with kind := .primitive 'B', accessFlags := 0x411 }
/-- [B -/
def k6 : Class := { plain "[B" (some 0) with kind := .array 5 .byte, interfaces := #[3, 4], accessFlags := 1041 }

/-- the primitive int -/
def k7 : Class := { plain "int" none with kind := .primitive 'I', accessFlags := 0x411 }
/-- [I -/
def k8 : Class := { plain "[I" (some 0) with kind := .array 7 .int, interfaces := #[3, 4], accessFlags := 1041 }

def heap : Heap := #[]
def classes : Array Class := #[k0, k1, k2, k3, k4, k5, k6, k7, k8]
def interned : List (Array UInt16 × Addr) := []
def slotsUsed : Nat := 0
def theMethod : MethodId := ⟨1, 1⟩
def args0 : Array Value := #[.int 5, .int 5, .int 5]
def aboutOver (below : List Frame) : State where
  vm := { classes := classes, interned := interned.toArray }
  heap := heap
  slotsUsed := slotsUsed
  threads := #[{ frames := .invoking theMethod args0 :: below }]
def below0 : List Frame := [.native { method := ⟨0, 0⟩, args := #[] }]
def about1 : State := aboutOver below0
def p0 : Program := .bare "" "" ""
def e0 : Env := launch0.env 0 0 0
theorem w_frames : about1.frames = Frame.invoking theMethod args0 :: below0 := rfl
set_option maxRecDepth 65536 in
theorem w_args : argsFit about1.vm theMethod args0 = true := by decide +kernel
set_option maxRecDepth 65536 in
theorem w_heap : heapFits about1 = true := by decide +kernel
set_option maxRecDepth 65536 in
theorem w_runnable : about1.curStatus? = some .runnable := by decide +kernel
set_option maxRecDepth 65536 in
theorem w_alone : about1.alone = true := by decide +kernel
set_option maxRecDepth 65536 in
theorem w_named : about1.methodNamed? x = some theMethod := by decide +kernel
set_option maxRecDepth 65536 in
theorem w_hears : about1.hears theMethod below0 = true := by decide +kernel
set_option maxRecDepth 65536 in
theorem w_ripe : about1.ripe theMethod args0 below0 = true := by decide +kernel
theorem w_running : about1.status = .running := rfl
set_option maxRecDepth 65536 in
theorem w_room : about1.hasRoom e0.platform room_1 = true :=
  launch0.hasRoom_least _ room_1 (by decide +kernel) (by decide +kernel) (by decide +kernel) (by decide +kernel) (by decide +kernel) (by decide +kernel)
theorem allAtoms_all (ts : List Jvm.Cond) (a : Array Jvm.Value) (st : Jvm.State) : (allAtoms ts).before a st = ts.all (fun c => c.before a st) := by
  induction ts with
  | nil => rfl
  | cons c t ih =>
    show (Jvm.Cond.and c (allAtoms t)).before a st = _
    rw [Jvm.Cond.before_and, ih, List.all_cons]
def words1 : List Jvm.Cond := Jvm.Cond.code x code maxLocals ret :: tables_1
/-- a 'code' word, met by the world's own term for the bytes: nothing is compared byte by byte -/
theorem code_word {y : MethodName} {bytes : ByteArray} {mx : Nat} {rt : Option FieldType} {a : Array Value} {s : State} {m : MethodId} {meth : Method} {c : Code} (h1 : s.methodNamed? y = some m) (h2 : s.vm.method? m = some meth) (h3 : meth.code = some c) (h4 : c.code = bytes)
    (h5 : (c.maxLocals == mx && c.exceptionTable.isEmpty && decide (c.maxStack ≤ mostOperands) && decide (meth.sig.returnType = rt) && !meth.locks && decide (parseMethodDescriptor y.desc = some meth.sig)) = true) : (Jvm.Cond.code y bytes mx rt).before a s = true := by
  simp only [Bool.and_eq_true, beq_iff_eq, Bool.not_eq_true', decide_eq_true_eq] at h5
  obtain ⟨⟨⟨⟨⟨g1, g2⟩, g3⟩, g4⟩, g5⟩, g6⟩ := h5
  simp [Cond.before, Cond.holds, Cond.value, h1, h2, h3, h4, g1, g2, g3, g4, g5, g6]
def isCode : Jvm.Cond → Bool
  | .code _ _ _ _ => true
  | _ => false
theorem all_split {L : List Jvm.Cond} {P : Jvm.Cond → Bool} (h1 : L.all (fun c => isCode c || P c) = true) (h2 : ∀ c ∈ L.filter isCode, P c = true) : L.all P = true := by
  refine List.all_eq_true.mpr fun c hc => ?_
  have h := List.all_eq_true.mp h1 c hc
  rcases Bool.eq_false_or_eq_true (isCode c) with hi | hi
  · exact h2 c (List.mem_filter.mpr ⟨hc, hi⟩)
  · simpa [hi] using h
set_option maxRecDepth 65536 in
theorem w_c0 : (Jvm.Cond.code x code maxLocals ret).before args0 about1 = true := code_word (m := ⟨1, 1⟩) (meth := k1m1) (c := k1c1) (by decide +kernel) rfl rfl rfl (by decide +kernel)
set_option maxRecDepth 65536 in
theorem w_c1 : (Jvm.Cond.code ({ cls := "com/example/emniyet/emniyet/engine/Tpm2", name := "isContextHandle", desc := "(S)Z" } : Jvm.MethodName) prog_7_method_3_code (2 : Nat) (Option.some Jvm.ClassFile.FieldType.boolean)).before args0 about1 = true := code_word (m := ⟨2, 2⟩) (meth := k2m2) (c := k2c2) (by decide +kernel) rfl rfl rfl (by decide +kernel)
set_option maxRecDepth 65536 in
theorem w_c2 : (Jvm.Cond.code ({ cls := "com/example/emniyet/emniyet/engine/Tpm2", name := "handleType", desc := "(S)B" } : Jvm.MethodName) prog_7_method_2_code (1 : Nat) (Option.some Jvm.ClassFile.FieldType.byte)).before args0 about1 = true := code_word (m := ⟨2, 1⟩) (meth := k2m1) (c := k2c1) (by decide +kernel) rfl rfl rfl (by decide +kernel)
def codes1 : List Jvm.Cond := [Jvm.Cond.code x code maxLocals ret, Jvm.Cond.code ({ cls := "com/example/emniyet/emniyet/engine/Tpm2", name := "isContextHandle", desc := "(S)Z" } : Jvm.MethodName) prog_7_method_3_code (2 : Nat) (Option.some Jvm.ClassFile.FieldType.boolean), Jvm.Cond.code ({ cls := "com/example/emniyet/emniyet/engine/Tpm2", name := "handleType", desc := "(S)B" } : Jvm.MethodName) prog_7_method_2_code (1 : Nat) (Option.some Jvm.ClassFile.FieldType.byte)]
set_option maxRecDepth 65536 in
theorem codes_eq : words1.filter isCode = codes1 := rfl
theorem w_codes : ∀ c ∈ words1.filter isCode, c.before args0 about1 = true := by
  rw [codes_eq]
  intro c hc
  simp only [codes1, List.mem_cons, List.not_mem_nil, or_false] at hc
  rcases hc with rfl | rfl | rfl
  · exact w_c0
  · exact w_c1
  · exact w_c2
set_option maxRecDepth 65536 in
theorem w_t1 : words1.all (fun c => isCode c || c.before args0 about1) = true := by decide +kernel
theorem w_tables : (allAtoms (Jvm.Cond.code x code maxLocals ret :: tables_1)).before args0 about1 = true := by
  rw [allAtoms_all]
  show words1.all (fun c => c.before args0 about1) = true
  refine all_split ?_ w_codes
  rw [w_t1]
set_option maxRecDepth 65536 in
theorem w_case : (Jvm.Cond.and given_1 narrow_1).before args0 about1 = true := by decide +kernel
theorem w_applies : (headSpec (Jvm.Cond.code x code maxLocals ret :: tables_1) room_1).applies x e0.platform about1 = true :=
  (Spec.applies_iff w_frames).mpr ⟨w_running, w_runnable, w_alone, w_named, w_hears, w_ripe, w_room, w_tables⟩
theorem atStart : AtStart classFile x code maxLocals ret World_1 tables_1 room_1 Calls_1 rest_1 Pre_1 launch0 p0 e0 about1 theMethod args0 below0 :=
  ⟨lists_1, trivial, launch0.admits_env _ _ _, launch0.least_env, fairChoices_fair.cas, fairChoices_fair.clock, w_frames, w_args, w_heap, w_applies, trivial, trivial, w_case⟩
end start1
theorem witness_1 : WitnessClaimed_1 := ⟨start1.p0, start1.e0, start1.about1, start1.theMethod, start1.args0, start1.below0, start1.atStart⟩
end Jvm.Pilot.@@N@@
