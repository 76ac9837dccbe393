import JvmDerived
import JvmDerived.Pilot.@@N@@Statement
import JvmDerived.Pilot.@@N@@Code
set_option linter.unusedVariables false
set_option linter.unusedSimpArgs false
namespace Jvm.Pilot.@@N@@
open Jvm Jvm.ClassFile Sem Op Lib Jvm.Free Jvm.Stand Jvm.LawKit Jvm.RoadKit Bundle Jvm.Pilot.@@N@@.Jvm.D

/-- from here the invocation ends, and what it leaves meets Q -/
def Go (p : Program) (e : Env) (below : List Frame) (s : State) (mc ms : Nat) (Q : Option Value → Heap → List Loc → Prop) (m : MethodId) (T : State) (pc : Nat) (Ls : Array Slot) (st : List Value) : Prop :=
  ∃ s₂ o, Steps p.tables e below (T.setTop (mkF m pc Ls st)) s₂ ∧ s₂.status = .running ∧ Ended s₂ below o ∧ ∃ v L, o = .returned v ∧ Q v s₂.heap L ∧ FrameEnd s o s₂ L mc ms
section Law
variable {p : Program} {l : Launch} {e : Env} {R : Room} {s : State} {m : MethodId} {args : Array Value} {below : List Frame} {meth : Method} {c : Code} {T T' : State} {locs : List Loc} {cells slots : Nat} {code : ByteArray} {Q : Option Value → Heap → List Loc → Prop} {mc ms : Nat} {pc pc' : Nat} {Ls Ls' : Array Slot} {st st' rest : List Value}
theorem Go.of (k : Go p e below s mc ms Q m T' pc' Ls' st') (h : ∀ t, Steps p.tables e below (T'.setTop (mkF m pc' Ls' st')) t → Steps p.tables e below (T.setTop (mkF m pc Ls st)) t) : Go p e below s mc ms Q m T pc Ls st := by
  obtain ⟨a, o, h1, h2⟩ := k
  exact ⟨a, o, h _ h1, h2⟩
def remI (x y : Int32) : Int32 := x - (x / y) * y
def remJ (x y : Int64) : Int64 := x - (x / y) * y
def i2bF (x : Int32) : Int32 := x.toInt8.toInt32
def i2cF (x : Int32) : Int32 := x.toUInt32.toUInt16.toUInt32.toInt32
def i2sF (x : Int32) : Int32 := x.toInt16.toInt32
def shlI (x y : Int32) : Int32 := x <<< (y &&& 31)
def shrI (x y : Int32) : Int32 := x >>> (y &&& 31)
def shlJ (x : Int64) (y : Int32) : Int64 := x <<< (y.toInt64 &&& 63)
def shrJ (x : Int64) (y : Int32) : Int64 := x >>> (y.toInt64 &&& 63)

theorem Go.iload (X : Stand p l e R s m args below meth c T locs cells slots) (hx : p.tables.exec = Jvm.exec) (hby : c.code = code) {k : Nat} {v : Int32} (hd : decode code pc = .ok (.iload k, 2)) (hpc : pc + 2 = pc') (hl : Ls[k]? = some (.val (.int v))) (h : Go p e below s mc ms Q m T pc' Ls (.int v :: st)) : Go p e below s mc ms Q m T pc Ls (st) := by
  subst hpc; exact h.of fun _ kk => XS.iload (g := mkF m pc Ls (st)) X.here hx rfl (hb hby hd) hl kk
theorem Go.iloadN (X : Stand p l e R s m args below meth c T locs cells slots) (hx : p.tables.exec = Jvm.exec) (hby : c.code = code) {k : Fin 4} {v : Int32} (hd : decode code pc = .ok (.iload_n k, 1)) (hpc : pc + 1 = pc') (hl : Ls[k.val]? = some (.val (.int v))) (h : Go p e below s mc ms Q m T pc' Ls (.int v :: st)) : Go p e below s mc ms Q m T pc Ls (st) := by
  subst hpc; exact h.of fun _ kk => XS.iloadN (g := mkF m pc Ls (st)) X.here hx rfl (hb hby hd) hl kk
theorem Go.lload (X : Stand p l e R s m args below meth c T locs cells slots) (hx : p.tables.exec = Jvm.exec) (hby : c.code = code) {k : Nat} {v : Int64} (hd : decode code pc = .ok (.lload k, 2)) (hpc : pc + 2 = pc') (hl : Ls[k]? = some (.val (.long v))) (h : Go p e below s mc ms Q m T pc' Ls (.long v :: st)) : Go p e below s mc ms Q m T pc Ls (st) := by
  subst hpc; exact h.of fun _ kk => XT.lload (g := mkF m pc Ls (st)) X.here hx rfl (hb hby hd) hl kk
theorem Go.lloadN (X : Stand p l e R s m args below meth c T locs cells slots) (hx : p.tables.exec = Jvm.exec) (hby : c.code = code) {k : Fin 4} {v : Int64} (hd : decode code pc = .ok (.lload_n k, 1)) (hpc : pc + 1 = pc') (hl : Ls[k.val]? = some (.val (.long v))) (h : Go p e below s mc ms Q m T pc' Ls (.long v :: st)) : Go p e below s mc ms Q m T pc Ls (st) := by
  subst hpc; exact h.of fun _ kk => XT.lloadN (g := mkF m pc Ls (st)) X.here hx rfl (hb hby hd) hl kk
theorem Go.aload (X : Stand p l e R s m args below meth c T locs cells slots) (hx : p.tables.exec = Jvm.exec) (hby : c.code = code) {k : Nat} {v : Value} (hd : decode code pc = .ok (.aload k, 2)) (hpc : pc + 2 = pc') (hl : Ls[k]? = some (.val v)) (hv : v.isRef = true) (h : Go p e below s mc ms Q m T pc' Ls (v :: st)) : Go p e below s mc ms Q m T pc Ls (st) := by
  subst hpc; exact h.of fun _ kk => XS.aload (g := mkF m pc Ls (st)) X.here hx rfl (hb hby hd) hl hv kk
theorem Go.aloadN (X : Stand p l e R s m args below meth c T locs cells slots) (hx : p.tables.exec = Jvm.exec) (hby : c.code = code) {k : Fin 4} {v : Value} (hd : decode code pc = .ok (.aload_n k, 1)) (hpc : pc + 1 = pc') (hl : Ls[k.val]? = some (.val v)) (hv : v.isRef = true) (h : Go p e below s mc ms Q m T pc' Ls (v :: st)) : Go p e below s mc ms Q m T pc Ls (st) := by
  subst hpc; exact h.of fun _ kk => XS.aloadN (g := mkF m pc Ls (st)) X.here hx rfl (hb hby hd) hl hv kk
theorem Go.istore (X : Stand p l e R s m args below meth c T locs cells slots) (hx : p.tables.exec = Jvm.exec) (hby : c.code = code) {k : Nat} {v : Int32} (hd : decode code pc = .ok (.istore k, 2)) (hpc : pc + 2 = pc') (hl : storeLocals Ls k (.int v) = some Ls') (h : Go p e below s mc ms Q m T pc' Ls' (st)) : Go p e below s mc ms Q m T pc Ls (.int v :: st) := by
  subst hpc; exact h.of fun _ kk => XS.istore (g := mkF m pc Ls (.int v :: st)) X.here hx rfl (hb hby hd) rfl hl kk
theorem Go.istoreN (X : Stand p l e R s m args below meth c T locs cells slots) (hx : p.tables.exec = Jvm.exec) (hby : c.code = code) {k : Fin 4} {v : Int32} (hd : decode code pc = .ok (.istore_n k, 1)) (hpc : pc + 1 = pc') (hl : storeLocals Ls k.val (.int v) = some Ls') (h : Go p e below s mc ms Q m T pc' Ls' (st)) : Go p e below s mc ms Q m T pc Ls (.int v :: st) := by
  subst hpc; exact h.of fun _ kk => XS.istoreN (g := mkF m pc Ls (.int v :: st)) X.here hx rfl (hb hby hd) rfl hl kk
theorem Go.lstore (X : Stand p l e R s m args below meth c T locs cells slots) (hx : p.tables.exec = Jvm.exec) (hby : c.code = code) {k : Nat} {v : Int64} (hd : decode code pc = .ok (.lstore k, 2)) (hpc : pc + 2 = pc') (hl : storeLocals Ls k (.long v) = some Ls') (h : Go p e below s mc ms Q m T pc' Ls' (st)) : Go p e below s mc ms Q m T pc Ls (.long v :: st) := by
  subst hpc; exact h.of fun _ kk => XT.lstore (g := mkF m pc Ls (.long v :: st)) X.here hx rfl (hb hby hd) rfl hl kk
theorem Go.lstoreN (X : Stand p l e R s m args below meth c T locs cells slots) (hx : p.tables.exec = Jvm.exec) (hby : c.code = code) {k : Fin 4} {v : Int64} (hd : decode code pc = .ok (.lstore_n k, 1)) (hpc : pc + 1 = pc') (hl : storeLocals Ls k.val (.long v) = some Ls') (h : Go p e below s mc ms Q m T pc' Ls' (st)) : Go p e below s mc ms Q m T pc Ls (.long v :: st) := by
  subst hpc; exact h.of fun _ kk => XT.lstoreN (g := mkF m pc Ls (.long v :: st)) X.here hx rfl (hb hby hd) rfl hl kk
theorem Go.astore (X : Stand p l e R s m args below meth c T locs cells slots) (hx : p.tables.exec = Jvm.exec) (hby : c.code = code) {k : Nat} {v : Value} (hd : decode code pc = .ok (.astore k, 2)) (hpc : pc + 2 = pc') (hv : v.isRef = true) (hl : storeLocals Ls k v = some Ls') (h : Go p e below s mc ms Q m T pc' Ls' (st)) : Go p e below s mc ms Q m T pc Ls (v :: st) := by
  subst hpc; exact h.of fun _ kk => XS.astore (g := mkF m pc Ls (v :: st)) X.here hx rfl (hb hby hd) rfl hv hl kk
theorem Go.astoreN (X : Stand p l e R s m args below meth c T locs cells slots) (hx : p.tables.exec = Jvm.exec) (hby : c.code = code) {k : Fin 4} {v : Value} (hd : decode code pc = .ok (.astore_n k, 1)) (hpc : pc + 1 = pc') (hv : v.isRef = true) (hl : storeLocals Ls k.val v = some Ls') (h : Go p e below s mc ms Q m T pc' Ls' (st)) : Go p e below s mc ms Q m T pc Ls (v :: st) := by
  subst hpc; exact h.of fun _ kk => XS.astoreN (g := mkF m pc Ls (v :: st)) X.here hx rfl (hb hby hd) rfl hv hl kk
theorem Go.iconst (X : Stand p l e R s m args below meth c T locs cells slots) (hx : p.tables.exec = Jvm.exec) (hby : c.code = code) {i : Int} {v : Int32} (hd : decode code pc = .ok (.iconst i, 1)) (hpc : pc + 1 = pc') (hv : Int32.ofInt i = v) (h : Go p e below s mc ms Q m T pc' Ls (.int v :: st)) : Go p e below s mc ms Q m T pc Ls (st) := by
  subst hpc; exact h.of fun _ kk => XT.iconstV (g := mkF m pc Ls (st)) X.here hx rfl v (hb hby hd) hv kk
theorem Go.bipush (X : Stand p l e R s m args below meth c T locs cells slots) (hx : p.tables.exec = Jvm.exec) (hby : c.code = code) {i : Int} {v : Int32} (hd : decode code pc = .ok (.bipush i, 2)) (hpc : pc + 2 = pc') (hv : (Int8.ofInt i).toInt32 = v) (h : Go p e below s mc ms Q m T pc' Ls (.int v :: st)) : Go p e below s mc ms Q m T pc Ls (st) := by
  subst hpc; exact h.of fun _ kk => XT.bipushV (g := mkF m pc Ls (st)) X.here hx rfl v (hb hby hd) hv kk
theorem Go.sipush (X : Stand p l e R s m args below meth c T locs cells slots) (hx : p.tables.exec = Jvm.exec) (hby : c.code = code) {i : Int} {v : Int32} (hd : decode code pc = .ok (.sipush i, 3)) (hpc : pc + 3 = pc') (hv : (Int16.ofInt i).toInt32 = v) (h : Go p e below s mc ms Q m T pc' Ls (.int v :: st)) : Go p e below s mc ms Q m T pc Ls (st) := by
  subst hpc; exact h.of fun _ kk => XT.sipushV (g := mkF m pc Ls (st)) X.here hx rfl v (hb hby hd) hv kk
theorem Go.lconst (X : Stand p l e R s m args below meth c T locs cells slots) (hx : p.tables.exec = Jvm.exec) (hby : c.code = code) {k : Fin 2} {v : Int64} (hd : decode code pc = .ok (.lconst k, 1)) (hpc : pc + 1 = pc') (hv : Int64.ofNat k = v) (h : Go p e below s mc ms Q m T pc' Ls (.long v :: st)) : Go p e below s mc ms Q m T pc Ls (st) := by
  subst hpc; exact h.of fun _ kk => XT.lconstV (g := mkF m pc Ls (st)) X.here hx rfl v (hb hby hd) hv kk
theorem Go.aconstNull (X : Stand p l e R s m args below meth c T locs cells slots) (hx : p.tables.exec = Jvm.exec) (hby : c.code = code) (hd : decode code pc = .ok (.aconst_null, 1)) (hpc : pc + 1 = pc') (h : Go p e below s mc ms Q m T pc' Ls (.null :: st)) : Go p e below s mc ms Q m T pc Ls (st) := by
  subst hpc; exact h.of fun _ kk => XS.aconstNull (g := mkF m pc Ls (st)) X.here hx rfl (hb hby hd) kk
theorem Go.ldcI (X : Stand p l e R s m args below meth c T locs cells slots) (hx : p.tables.exec = Jvm.exec) (hby : c.code = code) {Z : State} {a0 : Array Value} (hZ : Z.Warmed39 s.vm) {own : String} {k : Nat} {v : Int32} (hown : s.vm.findClass own = some m.cls) (w : (Cond.constant own k v).before a0 Z = true) (hd : decode code pc = .ok (.ldc k, 2)) (hpc : pc + 2 = pc') (h : Go p e below s mc ms Q m T pc' Ls (.int v :: st)) : Go p e below s mc ms Q m T pc Ls (st) := by
  subst hpc; exact h.of fun _ kk => Stand.ldcI (g := mkF m pc Ls (st)) X hx hown (mvT hZ w) rfl (hb hby hd) kk
theorem Go.ldcJ (X : Stand p l e R s m args below meth c T locs cells slots) (hx : p.tables.exec = Jvm.exec) (hby : c.code = code) {Z : State} {a0 : Array Value} (hZ : Z.Warmed39 s.vm) {own : String} {k : Nat} {v : Int64} (hown : s.vm.findClass own = some m.cls) (w : (Cond.constantLong own k v).before a0 Z = true) (hd : decode code pc = .ok (.ldc2_w k, 3)) (hpc : pc + 3 = pc') (h : Go p e below s mc ms Q m T pc' Ls (.long v :: st)) : Go p e below s mc ms Q m T pc Ls (st) := by
  subst hpc; exact h.of fun _ kk => Stand.ldc2J (g := mkF m pc Ls (st)) X hx hown (mvT hZ w) rfl (hb hby hd) kk
theorem Go.iadd (X : Stand p l e R s m args below meth c T locs cells slots) (hx : p.tables.exec = Jvm.exec) (hby : c.code = code) {x y : Int32} (hd : decode code pc = .ok (.iadd, 1)) (hpc : pc + 1 = pc') (h : Go p e below s mc ms Q m T pc' Ls (.int (x + y) :: st)) : Go p e below s mc ms Q m T pc Ls (.int y :: .int x :: st) := by
  subst hpc; exact h.of fun _ kk => XS.iadd (g := mkF m pc Ls (.int y :: .int x :: st)) X.here hx rfl (hb hby hd) rfl kk
theorem Go.isub (X : Stand p l e R s m args below meth c T locs cells slots) (hx : p.tables.exec = Jvm.exec) (hby : c.code = code) {x y : Int32} (hd : decode code pc = .ok (.isub, 1)) (hpc : pc + 1 = pc') (h : Go p e below s mc ms Q m T pc' Ls (.int (x - y) :: st)) : Go p e below s mc ms Q m T pc Ls (.int y :: .int x :: st) := by
  subst hpc; exact h.of fun _ kk => XS.isub (g := mkF m pc Ls (.int y :: .int x :: st)) X.here hx rfl (hb hby hd) rfl kk
theorem Go.imul (X : Stand p l e R s m args below meth c T locs cells slots) (hx : p.tables.exec = Jvm.exec) (hby : c.code = code) {x y : Int32} (hd : decode code pc = .ok (.imul, 1)) (hpc : pc + 1 = pc') (h : Go p e below s mc ms Q m T pc' Ls (.int (x * y) :: st)) : Go p e below s mc ms Q m T pc Ls (.int y :: .int x :: st) := by
  subst hpc; exact h.of fun _ kk => XS.imul (g := mkF m pc Ls (.int y :: .int x :: st)) X.here hx rfl (hb hby hd) rfl kk
theorem Go.iand (X : Stand p l e R s m args below meth c T locs cells slots) (hx : p.tables.exec = Jvm.exec) (hby : c.code = code) {x y : Int32} (hd : decode code pc = .ok (.iand, 1)) (hpc : pc + 1 = pc') (h : Go p e below s mc ms Q m T pc' Ls (.int (x &&& y) :: st)) : Go p e below s mc ms Q m T pc Ls (.int y :: .int x :: st) := by
  subst hpc; exact h.of fun _ kk => XS.iand (g := mkF m pc Ls (.int y :: .int x :: st)) X.here hx rfl (hb hby hd) rfl kk
theorem Go.ior (X : Stand p l e R s m args below meth c T locs cells slots) (hx : p.tables.exec = Jvm.exec) (hby : c.code = code) {x y : Int32} (hd : decode code pc = .ok (.ior, 1)) (hpc : pc + 1 = pc') (h : Go p e below s mc ms Q m T pc' Ls (.int (x ||| y) :: st)) : Go p e below s mc ms Q m T pc Ls (.int y :: .int x :: st) := by
  subst hpc; exact h.of fun _ kk => XT.ior (g := mkF m pc Ls (.int y :: .int x :: st)) X.here hx rfl (hb hby hd) rfl kk
theorem Go.ixor (X : Stand p l e R s m args below meth c T locs cells slots) (hx : p.tables.exec = Jvm.exec) (hby : c.code = code) {x y : Int32} (hd : decode code pc = .ok (.ixor, 1)) (hpc : pc + 1 = pc') (h : Go p e below s mc ms Q m T pc' Ls (.int (x ^^^ y) :: st)) : Go p e below s mc ms Q m T pc Ls (.int y :: .int x :: st) := by
  subst hpc; exact h.of fun _ kk => XT.ixor (g := mkF m pc Ls (.int y :: .int x :: st)) X.here hx rfl (hb hby hd) rfl kk
theorem Go.ishl (X : Stand p l e R s m args below meth c T locs cells slots) (hx : p.tables.exec = Jvm.exec) (hby : c.code = code) {x y : Int32} (hd : decode code pc = .ok (.ishl, 1)) (hpc : pc + 1 = pc') (h : Go p e below s mc ms Q m T pc' Ls (.int (shlI x y) :: st)) : Go p e below s mc ms Q m T pc Ls (.int y :: .int x :: st) := by
  subst hpc; exact h.of fun _ kk => XT.ishl (g := mkF m pc Ls (.int y :: .int x :: st)) X.here hx rfl (hb hby hd) rfl kk
theorem Go.ishr (X : Stand p l e R s m args below meth c T locs cells slots) (hx : p.tables.exec = Jvm.exec) (hby : c.code = code) {x y : Int32} (hd : decode code pc = .ok (.ishr, 1)) (hpc : pc + 1 = pc') (h : Go p e below s mc ms Q m T pc' Ls (.int (shrI x y) :: st)) : Go p e below s mc ms Q m T pc Ls (.int y :: .int x :: st) := by
  subst hpc; exact h.of fun _ kk => XT.ishr (g := mkF m pc Ls (.int y :: .int x :: st)) X.here hx rfl (hb hby hd) rfl kk
theorem Go.iushr (X : Stand p l e R s m args below meth c T locs cells slots) (hx : p.tables.exec = Jvm.exec) (hby : c.code = code) {x y : Int32} (hd : decode code pc = .ok (.iushr, 1)) (hpc : pc + 1 = pc') (h : Go p e below s mc ms Q m T pc' Ls (.int (XT.ushr x y) :: st)) : Go p e below s mc ms Q m T pc Ls (.int y :: .int x :: st) := by
  subst hpc; exact h.of fun _ kk => XT.iushr (g := mkF m pc Ls (.int y :: .int x :: st)) X.here hx rfl (hb hby hd) rfl kk
theorem Go.idiv (X : Stand p l e R s m args below meth c T locs cells slots) (hx : p.tables.exec = Jvm.exec) (hby : c.code = code) {x y : Int32} (hd : decode code pc = .ok (.idiv, 1)) (hpc : pc + 1 = pc') (hy : y ≠ 0) (h : Go p e below s mc ms Q m T pc' Ls (.int (x / y) :: st)) : Go p e below s mc ms Q m T pc Ls (.int y :: .int x :: st) := by
  subst hpc; exact h.of fun _ kk => XS.idiv (g := mkF m pc Ls (.int y :: .int x :: st)) X.here hx rfl (hb hby hd) rfl hy kk
theorem Go.irem (X : Stand p l e R s m args below meth c T locs cells slots) (hx : p.tables.exec = Jvm.exec) (hby : c.code = code) {x y : Int32} (hd : decode code pc = .ok (.irem, 1)) (hpc : pc + 1 = pc') (hy : y ≠ 0) (h : Go p e below s mc ms Q m T pc' Ls (.int (remI x y) :: st)) : Go p e below s mc ms Q m T pc Ls (.int y :: .int x :: st) := by
  subst hpc; exact h.of fun _ kk => XS.irem (g := mkF m pc Ls (.int y :: .int x :: st)) X.here hx rfl (hb hby hd) rfl hy kk
theorem Go.ladd (X : Stand p l e R s m args below meth c T locs cells slots) (hx : p.tables.exec = Jvm.exec) (hby : c.code = code) {x y : Int64} (hd : decode code pc = .ok (.ladd, 1)) (hpc : pc + 1 = pc') (h : Go p e below s mc ms Q m T pc' Ls (.long (x + y) :: st)) : Go p e below s mc ms Q m T pc Ls (.long y :: .long x :: st) := by
  subst hpc; exact h.of fun _ kk => XT.ladd (g := mkF m pc Ls (.long y :: .long x :: st)) X.here hx rfl (hb hby hd) rfl kk
theorem Go.lsub (X : Stand p l e R s m args below meth c T locs cells slots) (hx : p.tables.exec = Jvm.exec) (hby : c.code = code) {x y : Int64} (hd : decode code pc = .ok (.lsub, 1)) (hpc : pc + 1 = pc') (h : Go p e below s mc ms Q m T pc' Ls (.long (x - y) :: st)) : Go p e below s mc ms Q m T pc Ls (.long y :: .long x :: st) := by
  subst hpc; exact h.of fun _ kk => XT.lsub (g := mkF m pc Ls (.long y :: .long x :: st)) X.here hx rfl (hb hby hd) rfl kk
theorem Go.lmul (X : Stand p l e R s m args below meth c T locs cells slots) (hx : p.tables.exec = Jvm.exec) (hby : c.code = code) {x y : Int64} (hd : decode code pc = .ok (.lmul, 1)) (hpc : pc + 1 = pc') (h : Go p e below s mc ms Q m T pc' Ls (.long (x * y) :: st)) : Go p e below s mc ms Q m T pc Ls (.long y :: .long x :: st) := by
  subst hpc; exact h.of fun _ kk => XT.lmul (g := mkF m pc Ls (.long y :: .long x :: st)) X.here hx rfl (hb hby hd) rfl kk
theorem Go.land (X : Stand p l e R s m args below meth c T locs cells slots) (hx : p.tables.exec = Jvm.exec) (hby : c.code = code) {x y : Int64} (hd : decode code pc = .ok (.land, 1)) (hpc : pc + 1 = pc') (h : Go p e below s mc ms Q m T pc' Ls (.long (x &&& y) :: st)) : Go p e below s mc ms Q m T pc Ls (.long y :: .long x :: st) := by
  subst hpc; exact h.of fun _ kk => XT.land (g := mkF m pc Ls (.long y :: .long x :: st)) X.here hx rfl (hb hby hd) rfl kk
theorem Go.lor (X : Stand p l e R s m args below meth c T locs cells slots) (hx : p.tables.exec = Jvm.exec) (hby : c.code = code) {x y : Int64} (hd : decode code pc = .ok (.lor, 1)) (hpc : pc + 1 = pc') (h : Go p e below s mc ms Q m T pc' Ls (.long (x ||| y) :: st)) : Go p e below s mc ms Q m T pc Ls (.long y :: .long x :: st) := by
  subst hpc; exact h.of fun _ kk => XT.lor (g := mkF m pc Ls (.long y :: .long x :: st)) X.here hx rfl (hb hby hd) rfl kk
theorem Go.lxor (X : Stand p l e R s m args below meth c T locs cells slots) (hx : p.tables.exec = Jvm.exec) (hby : c.code = code) {x y : Int64} (hd : decode code pc = .ok (.lxor, 1)) (hpc : pc + 1 = pc') (h : Go p e below s mc ms Q m T pc' Ls (.long (x ^^^ y) :: st)) : Go p e below s mc ms Q m T pc Ls (.long y :: .long x :: st) := by
  subst hpc; exact h.of fun _ kk => XT.lxor (g := mkF m pc Ls (.long y :: .long x :: st)) X.here hx rfl (hb hby hd) rfl kk
theorem Go.ldiv (X : Stand p l e R s m args below meth c T locs cells slots) (hx : p.tables.exec = Jvm.exec) (hby : c.code = code) {x y : Int64} (hd : decode code pc = .ok (.ldiv, 1)) (hpc : pc + 1 = pc') (hy : y ≠ 0) (h : Go p e below s mc ms Q m T pc' Ls (.long (x / y) :: st)) : Go p e below s mc ms Q m T pc Ls (.long y :: .long x :: st) := by
  subst hpc; exact h.of fun _ kk => XT.ldiv (g := mkF m pc Ls (.long y :: .long x :: st)) X.here hx rfl (hb hby hd) rfl hy kk
theorem Go.lrem (X : Stand p l e R s m args below meth c T locs cells slots) (hx : p.tables.exec = Jvm.exec) (hby : c.code = code) {x y : Int64} (hd : decode code pc = .ok (.lrem, 1)) (hpc : pc + 1 = pc') (hy : y ≠ 0) (h : Go p e below s mc ms Q m T pc' Ls (.long (remJ x y) :: st)) : Go p e below s mc ms Q m T pc Ls (.long y :: .long x :: st) := by
  subst hpc; exact h.of fun _ kk => XT.lrem (g := mkF m pc Ls (.long y :: .long x :: st)) X.here hx rfl (hb hby hd) rfl hy kk
theorem Go.lushr (X : Stand p l e R s m args below meth c T locs cells slots) (hx : p.tables.exec = Jvm.exec) (hby : c.code = code) {x : Int64} {y : Int32} (hd : decode code pc = .ok (.lushr, 1)) (hpc : pc + 1 = pc') (h : Go p e below s mc ms Q m T pc' Ls (.long (XT.ushrL x y) :: st)) : Go p e below s mc ms Q m T pc Ls (.int y :: .long x :: st) := by
  subst hpc; exact h.of fun _ kk => XT.lushr (g := mkF m pc Ls (.int y :: .long x :: st)) X.here hx rfl (hb hby hd) rfl kk
theorem Go.lshl (X : Stand p l e R s m args below meth c T locs cells slots) (hx : p.tables.exec = Jvm.exec) (hby : c.code = code) {x : Int64} {y : Int32} {z : Int64} (hd : decode code pc = .ok (.lshl, 1)) (hpc : pc + 1 = pc') (hz : x <<< (y.toInt64 &&& 63) = z) (h : Go p e below s mc ms Q m T pc' Ls (.long z :: st)) : Go p e below s mc ms Q m T pc Ls (.int y :: .long x :: st) := by
  subst hpc hz; exact h.of fun _ kk => XT.lshl (g := mkF m pc Ls (.int y :: .long x :: st)) X.here hx rfl (hb hby hd) rfl kk
theorem Go.lshr (X : Stand p l e R s m args below meth c T locs cells slots) (hx : p.tables.exec = Jvm.exec) (hby : c.code = code) {x : Int64} {y : Int32} {z : Int64} (hd : decode code pc = .ok (.lshr, 1)) (hpc : pc + 1 = pc') (hz : x >>> (y.toInt64 &&& 63) = z) (h : Go p e below s mc ms Q m T pc' Ls (.long z :: st)) : Go p e below s mc ms Q m T pc Ls (.int y :: .long x :: st) := by
  subst hpc hz; exact h.of fun _ kk => XT.lshr (g := mkF m pc Ls (.int y :: .long x :: st)) X.here hx rfl (hb hby hd) rfl kk
theorem Go.lcmp (X : Stand p l e R s m args below meth c T locs cells slots) (hx : p.tables.exec = Jvm.exec) (hby : c.code = code) {x y : Int64} (hd : decode code pc = .ok (.lcmp, 1)) (hpc : pc + 1 = pc') (h : Go p e below s mc ms Q m T pc' Ls (.int (XT.cmpL x y) :: st)) : Go p e below s mc ms Q m T pc Ls (.long y :: .long x :: st) := by
  subst hpc; exact h.of fun _ kk => XT.lcmp (g := mkF m pc Ls (.long y :: .long x :: st)) X.here hx rfl (hb hby hd) rfl kk
theorem Go.ineg (X : Stand p l e R s m args below meth c T locs cells slots) (hx : p.tables.exec = Jvm.exec) (hby : c.code = code) {x : Int32} (hd : decode code pc = .ok (.ineg, 1)) (hpc : pc + 1 = pc') (h : Go p e below s mc ms Q m T pc' Ls (.int (-x) :: st)) : Go p e below s mc ms Q m T pc Ls (.int x :: st) := by
  subst hpc; exact h.of fun _ kk => XS.ineg (g := mkF m pc Ls (.int x :: st)) X.here hx rfl (hb hby hd) rfl kk
theorem Go.i2l (X : Stand p l e R s m args below meth c T locs cells slots) (hx : p.tables.exec = Jvm.exec) (hby : c.code = code) {x : Int32} (hd : decode code pc = .ok (.i2l, 1)) (hpc : pc + 1 = pc') (h : Go p e below s mc ms Q m T pc' Ls (.long (x.toInt64) :: st)) : Go p e below s mc ms Q m T pc Ls (.int x :: st) := by
  subst hpc; exact h.of fun _ kk => XT.i2l (g := mkF m pc Ls (.int x :: st)) X.here hx rfl (hb hby hd) rfl kk
theorem Go.l2i (X : Stand p l e R s m args below meth c T locs cells slots) (hx : p.tables.exec = Jvm.exec) (hby : c.code = code) {x : Int64} (hd : decode code pc = .ok (.l2i, 1)) (hpc : pc + 1 = pc') (h : Go p e below s mc ms Q m T pc' Ls (.int (x.toInt32) :: st)) : Go p e below s mc ms Q m T pc Ls (.long x :: st) := by
  subst hpc; exact h.of fun _ kk => XT.l2i (g := mkF m pc Ls (.long x :: st)) X.here hx rfl (hb hby hd) rfl kk
theorem Go.i2b (X : Stand p l e R s m args below meth c T locs cells slots) (hx : p.tables.exec = Jvm.exec) (hby : c.code = code) {x : Int32} (hd : decode code pc = .ok (.i2b, 1)) (hpc : pc + 1 = pc') (h : Go p e below s mc ms Q m T pc' Ls (.int (i2bF x) :: st)) : Go p e below s mc ms Q m T pc Ls (.int x :: st) := by
  subst hpc; exact h.of fun _ kk => XT.i2b (g := mkF m pc Ls (.int x :: st)) X.here hx rfl (hb hby hd) rfl kk
theorem Go.i2c (X : Stand p l e R s m args below meth c T locs cells slots) (hx : p.tables.exec = Jvm.exec) (hby : c.code = code) {x : Int32} (hd : decode code pc = .ok (.i2c, 1)) (hpc : pc + 1 = pc') (h : Go p e below s mc ms Q m T pc' Ls (.int (i2cF x) :: st)) : Go p e below s mc ms Q m T pc Ls (.int x :: st) := by
  subst hpc; exact h.of fun _ kk => XT.i2c (g := mkF m pc Ls (.int x :: st)) X.here hx rfl (hb hby hd) rfl kk
theorem Go.i2s (X : Stand p l e R s m args below meth c T locs cells slots) (hx : p.tables.exec = Jvm.exec) (hby : c.code = code) {x : Int32} (hd : decode code pc = .ok (.i2s, 1)) (hpc : pc + 1 = pc') (h : Go p e below s mc ms Q m T pc' Ls (.int (i2sF x) :: st)) : Go p e below s mc ms Q m T pc Ls (.int x :: st) := by
  subst hpc; exact h.of fun _ kk => XT.i2s (g := mkF m pc Ls (.int x :: st)) X.here hx rfl (hb hby hd) rfl kk
theorem Go.iinc (X : Stand p l e R s m args below meth c T locs cells slots) (hx : p.tables.exec = Jvm.exec) (hby : c.code = code) {k : Nat} {i : Int} {x v : Int32} (hd : decode code pc = .ok (.iinc k i, 3)) (hpc : pc + 3 = pc') (hv : Int32.ofInt i = v) (hl : Ls[k]? = some (.val (.int x))) (hl' : storeLocals Ls k (.int (x + v)) = some Ls') (h : Go p e below s mc ms Q m T pc' Ls' (st)) : Go p e below s mc ms Q m T pc Ls (st) := by
  subst hpc; exact h.of fun _ kk => XT.iincV (g := mkF m pc Ls (st)) X.here hx rfl v (hb hby hd) hv hl hl' kk
theorem Go.dup (X : Stand p l e R s m args below meth c T locs cells slots) (hx : p.tables.exec = Jvm.exec) (hby : c.code = code) {v : Value} (hd : decode code pc = .ok (.dup, 1)) (hpc : pc + 1 = pc') (hv : v.category = 1) (h : Go p e below s mc ms Q m T pc' Ls (v :: v :: st)) : Go p e below s mc ms Q m T pc Ls (v :: st) := by
  subst hpc; exact h.of fun _ kk => XS.dup (g := mkF m pc Ls (v :: st)) X.here hx rfl (hb hby hd) rfl hv kk
theorem Go.pop (X : Stand p l e R s m args below meth c T locs cells slots) (hx : p.tables.exec = Jvm.exec) (hby : c.code = code) {v : Value} (hd : decode code pc = .ok (.pop, 1)) (hpc : pc + 1 = pc') (hv : v.category = 1) (h : Go p e below s mc ms Q m T pc' Ls (st)) : Go p e below s mc ms Q m T pc Ls (v :: st) := by
  subst hpc; exact h.of fun _ kk => XT.pop (g := mkF m pc Ls (v :: st)) X.here hx rfl (hb hby hd) rfl hv kk
theorem Go.goto (X : Stand p l e R s m args below meth c T locs cells slots) (hx : p.tables.exec = Jvm.exec) (hby : c.code = code) {o : Int} (hd : decode code pc = .ok (.goto o, 3)) (ho : 0 ≤ (pc : Int) + o) (hp : ((pc : Int) + o).toNat = pc') (h : Go p e below s mc ms Q m T pc' Ls st) : Go p e below s mc ms Q m T pc Ls st :=
  h.of fun _ kk => XS.goto (g := mkF m pc Ls st) X.here hx rfl (pc0 := pc) rfl (hb hby hd) ho hp kk
theorem Go.icmp_eq (X : Stand p l e R s m args below meth c T locs cells slots) (hx : p.tables.exec = Jvm.exec) (hby : c.code = code) {pcN : Nat} {x y : Int32} {o : Int} (hd : decode code pc = .ok (.if_icmp .eq o, 3)) (ho : 0 ≤ (pc : Int) + o) (hp : ((pc : Int) + o).toNat = pc') (hn : pc + 3 = pcN) (yes : x = y → Go p e below s mc ms Q m T pc' Ls st) (no : ¬ x = y → Go p e below s mc ms Q m T pcN Ls st) : Go p e below s mc ms Q m T pc Ls (.int y :: .int x :: st) := by
  subst hn
  by_cases q : x = y
  · exact (yes q).of fun _ kk => XS.icmpYes (g := mkF m pc Ls (.int y :: .int x :: st)) X.here hx rfl (pc0 := pc) rfl (hb hby hd) rfl (XT.ii_eq_t q) ho hp kk
  · exact (no q).of fun _ kk => XS.icmpNo (g := mkF m pc Ls (.int y :: .int x :: st)) X.here hx rfl (hb hby hd) rfl (XT.ii_eq_f q) kk
theorem Go.icmp_ne (X : Stand p l e R s m args below meth c T locs cells slots) (hx : p.tables.exec = Jvm.exec) (hby : c.code = code) {pcN : Nat} {x y : Int32} {o : Int} (hd : decode code pc = .ok (.if_icmp .ne o, 3)) (ho : 0 ≤ (pc : Int) + o) (hp : ((pc : Int) + o).toNat = pc') (hn : pc + 3 = pcN) (yes : ¬ x = y → Go p e below s mc ms Q m T pc' Ls st) (no : x = y → Go p e below s mc ms Q m T pcN Ls st) : Go p e below s mc ms Q m T pc Ls (.int y :: .int x :: st) := by
  subst hn
  by_cases q : x = y
  · exact (no q).of fun _ kk => XS.icmpNo (g := mkF m pc Ls (.int y :: .int x :: st)) X.here hx rfl (hb hby hd) rfl (XT.ii_ne_f q) kk
  · exact (yes q).of fun _ kk => XS.icmpYes (g := mkF m pc Ls (.int y :: .int x :: st)) X.here hx rfl (pc0 := pc) rfl (hb hby hd) rfl (XT.ii_ne_t q) ho hp kk
theorem Go.icmp_lt (X : Stand p l e R s m args below meth c T locs cells slots) (hx : p.tables.exec = Jvm.exec) (hby : c.code = code) {pcN : Nat} {x y : Int32} {o : Int} (hd : decode code pc = .ok (.if_icmp .lt o, 3)) (ho : 0 ≤ (pc : Int) + o) (hp : ((pc : Int) + o).toNat = pc') (hn : pc + 3 = pcN) (yes : x < y → Go p e below s mc ms Q m T pc' Ls st) (no : ¬ x < y → Go p e below s mc ms Q m T pcN Ls st) : Go p e below s mc ms Q m T pc Ls (.int y :: .int x :: st) := by
  subst hn
  by_cases q : x < y
  · exact (yes q).of fun _ kk => XS.icmpYes (g := mkF m pc Ls (.int y :: .int x :: st)) X.here hx rfl (pc0 := pc) rfl (hb hby hd) rfl (XT.ii_lt_t q) ho hp kk
  · exact (no q).of fun _ kk => XS.icmpNo (g := mkF m pc Ls (.int y :: .int x :: st)) X.here hx rfl (hb hby hd) rfl (XT.ii_lt_f q) kk
theorem Go.icmp_ge (X : Stand p l e R s m args below meth c T locs cells slots) (hx : p.tables.exec = Jvm.exec) (hby : c.code = code) {pcN : Nat} {x y : Int32} {o : Int} (hd : decode code pc = .ok (.if_icmp .ge o, 3)) (ho : 0 ≤ (pc : Int) + o) (hp : ((pc : Int) + o).toNat = pc') (hn : pc + 3 = pcN) (yes : ¬ x < y → Go p e below s mc ms Q m T pc' Ls st) (no : x < y → Go p e below s mc ms Q m T pcN Ls st) : Go p e below s mc ms Q m T pc Ls (.int y :: .int x :: st) := by
  subst hn
  by_cases q : x < y
  · exact (no q).of fun _ kk => XS.icmpNo (g := mkF m pc Ls (.int y :: .int x :: st)) X.here hx rfl (hb hby hd) rfl (XT.ii_ge_f q) kk
  · exact (yes q).of fun _ kk => XS.icmpYes (g := mkF m pc Ls (.int y :: .int x :: st)) X.here hx rfl (pc0 := pc) rfl (hb hby hd) rfl (XT.ii_ge_t q) ho hp kk
theorem Go.icmp_gt (X : Stand p l e R s m args below meth c T locs cells slots) (hx : p.tables.exec = Jvm.exec) (hby : c.code = code) {pcN : Nat} {x y : Int32} {o : Int} (hd : decode code pc = .ok (.if_icmp .gt o, 3)) (ho : 0 ≤ (pc : Int) + o) (hp : ((pc : Int) + o).toNat = pc') (hn : pc + 3 = pcN) (yes : y < x → Go p e below s mc ms Q m T pc' Ls st) (no : ¬ y < x → Go p e below s mc ms Q m T pcN Ls st) : Go p e below s mc ms Q m T pc Ls (.int y :: .int x :: st) := by
  subst hn
  by_cases q : y < x
  · exact (yes q).of fun _ kk => XS.icmpYes (g := mkF m pc Ls (.int y :: .int x :: st)) X.here hx rfl (pc0 := pc) rfl (hb hby hd) rfl (XT.ii_gt_t q) ho hp kk
  · exact (no q).of fun _ kk => XS.icmpNo (g := mkF m pc Ls (.int y :: .int x :: st)) X.here hx rfl (hb hby hd) rfl (XT.ii_gt_f q) kk
theorem Go.icmp_le (X : Stand p l e R s m args below meth c T locs cells slots) (hx : p.tables.exec = Jvm.exec) (hby : c.code = code) {pcN : Nat} {x y : Int32} {o : Int} (hd : decode code pc = .ok (.if_icmp .le o, 3)) (ho : 0 ≤ (pc : Int) + o) (hp : ((pc : Int) + o).toNat = pc') (hn : pc + 3 = pcN) (yes : ¬ y < x → Go p e below s mc ms Q m T pc' Ls st) (no : y < x → Go p e below s mc ms Q m T pcN Ls st) : Go p e below s mc ms Q m T pc Ls (.int y :: .int x :: st) := by
  subst hn
  by_cases q : y < x
  · exact (no q).of fun _ kk => XS.icmpNo (g := mkF m pc Ls (.int y :: .int x :: st)) X.here hx rfl (hb hby hd) rfl (XT.ii_le_f q) kk
  · exact (yes q).of fun _ kk => XS.icmpYes (g := mkF m pc Ls (.int y :: .int x :: st)) X.here hx rfl (pc0 := pc) rfl (hb hby hd) rfl (XT.ii_le_t q) ho hp kk
theorem Go.if_eq (X : Stand p l e R s m args below meth c T locs cells slots) (hx : p.tables.exec = Jvm.exec) (hby : c.code = code) {pcN : Nat} {x : Int32} {o : Int} (hd : decode code pc = .ok (.ifCond .eq o, 3)) (ho : 0 ≤ (pc : Int) + o) (hp : ((pc : Int) + o).toNat = pc') (hn : pc + 3 = pcN) (yes : x = 0 → Go p e below s mc ms Q m T pc' Ls st) (no : ¬ x = 0 → Go p e below s mc ms Q m T pcN Ls st) : Go p e below s mc ms Q m T pc Ls (.int x :: st) := by
  subst hn
  by_cases q : x = 0
  · exact (yes q).of fun _ kk => XS.ifYes (g := mkF m pc Ls (.int x :: st)) X.here hx rfl (pc0 := pc) rfl (hb hby hd) rfl (XT.i0_eq_t q) ho hp kk
  · exact (no q).of fun _ kk => XS.ifNo (g := mkF m pc Ls (.int x :: st)) X.here hx rfl (hb hby hd) rfl (XT.i0_eq_f q) kk
theorem Go.if_ne (X : Stand p l e R s m args below meth c T locs cells slots) (hx : p.tables.exec = Jvm.exec) (hby : c.code = code) {pcN : Nat} {x : Int32} {o : Int} (hd : decode code pc = .ok (.ifCond .ne o, 3)) (ho : 0 ≤ (pc : Int) + o) (hp : ((pc : Int) + o).toNat = pc') (hn : pc + 3 = pcN) (yes : ¬ x = 0 → Go p e below s mc ms Q m T pc' Ls st) (no : x = 0 → Go p e below s mc ms Q m T pcN Ls st) : Go p e below s mc ms Q m T pc Ls (.int x :: st) := by
  subst hn
  by_cases q : x = 0
  · exact (no q).of fun _ kk => XS.ifNo (g := mkF m pc Ls (.int x :: st)) X.here hx rfl (hb hby hd) rfl (XT.i0_ne_f q) kk
  · exact (yes q).of fun _ kk => XS.ifYes (g := mkF m pc Ls (.int x :: st)) X.here hx rfl (pc0 := pc) rfl (hb hby hd) rfl (XT.i0_ne_t q) ho hp kk
theorem Go.if_lt (X : Stand p l e R s m args below meth c T locs cells slots) (hx : p.tables.exec = Jvm.exec) (hby : c.code = code) {pcN : Nat} {x : Int32} {o : Int} (hd : decode code pc = .ok (.ifCond .lt o, 3)) (ho : 0 ≤ (pc : Int) + o) (hp : ((pc : Int) + o).toNat = pc') (hn : pc + 3 = pcN) (yes : x < 0 → Go p e below s mc ms Q m T pc' Ls st) (no : ¬ x < 0 → Go p e below s mc ms Q m T pcN Ls st) : Go p e below s mc ms Q m T pc Ls (.int x :: st) := by
  subst hn
  by_cases q : x < 0
  · exact (yes q).of fun _ kk => XS.ifYes (g := mkF m pc Ls (.int x :: st)) X.here hx rfl (pc0 := pc) rfl (hb hby hd) rfl (XT.i0_lt_t q) ho hp kk
  · exact (no q).of fun _ kk => XS.ifNo (g := mkF m pc Ls (.int x :: st)) X.here hx rfl (hb hby hd) rfl (XT.i0_lt_f q) kk
theorem Go.if_ge (X : Stand p l e R s m args below meth c T locs cells slots) (hx : p.tables.exec = Jvm.exec) (hby : c.code = code) {pcN : Nat} {x : Int32} {o : Int} (hd : decode code pc = .ok (.ifCond .ge o, 3)) (ho : 0 ≤ (pc : Int) + o) (hp : ((pc : Int) + o).toNat = pc') (hn : pc + 3 = pcN) (yes : ¬ x < 0 → Go p e below s mc ms Q m T pc' Ls st) (no : x < 0 → Go p e below s mc ms Q m T pcN Ls st) : Go p e below s mc ms Q m T pc Ls (.int x :: st) := by
  subst hn
  by_cases q : x < 0
  · exact (no q).of fun _ kk => XS.ifNo (g := mkF m pc Ls (.int x :: st)) X.here hx rfl (hb hby hd) rfl (XT.i0_ge_f q) kk
  · exact (yes q).of fun _ kk => XS.ifYes (g := mkF m pc Ls (.int x :: st)) X.here hx rfl (pc0 := pc) rfl (hb hby hd) rfl (XT.i0_ge_t q) ho hp kk
theorem Go.if_gt (X : Stand p l e R s m args below meth c T locs cells slots) (hx : p.tables.exec = Jvm.exec) (hby : c.code = code) {pcN : Nat} {x : Int32} {o : Int} (hd : decode code pc = .ok (.ifCond .gt o, 3)) (ho : 0 ≤ (pc : Int) + o) (hp : ((pc : Int) + o).toNat = pc') (hn : pc + 3 = pcN) (yes : 0 < x → Go p e below s mc ms Q m T pc' Ls st) (no : ¬ 0 < x → Go p e below s mc ms Q m T pcN Ls st) : Go p e below s mc ms Q m T pc Ls (.int x :: st) := by
  subst hn
  by_cases q : 0 < x
  · exact (yes q).of fun _ kk => XS.ifYes (g := mkF m pc Ls (.int x :: st)) X.here hx rfl (pc0 := pc) rfl (hb hby hd) rfl (XT.i0_gt_t q) ho hp kk
  · exact (no q).of fun _ kk => XS.ifNo (g := mkF m pc Ls (.int x :: st)) X.here hx rfl (hb hby hd) rfl (XT.i0_gt_f q) kk
theorem Go.if_le (X : Stand p l e R s m args below meth c T locs cells slots) (hx : p.tables.exec = Jvm.exec) (hby : c.code = code) {pcN : Nat} {x : Int32} {o : Int} (hd : decode code pc = .ok (.ifCond .le o, 3)) (ho : 0 ≤ (pc : Int) + o) (hp : ((pc : Int) + o).toNat = pc') (hn : pc + 3 = pcN) (yes : ¬ 0 < x → Go p e below s mc ms Q m T pc' Ls st) (no : 0 < x → Go p e below s mc ms Q m T pcN Ls st) : Go p e below s mc ms Q m T pc Ls (.int x :: st) := by
  subst hn
  by_cases q : 0 < x
  · exact (no q).of fun _ kk => XS.ifNo (g := mkF m pc Ls (.int x :: st)) X.here hx rfl (hb hby hd) rfl (XT.i0_le_f q) kk
  · exact (yes q).of fun _ kk => XS.ifYes (g := mkF m pc Ls (.int x :: st)) X.here hx rfl (pc0 := pc) rfl (hb hby hd) rfl (XT.i0_le_t q) ho hp kk
theorem Go.ifL_eq (X : Stand p l e R s m args below meth c T locs cells slots) (hx : p.tables.exec = Jvm.exec) (hby : c.code = code) {pcN : Nat} {x y : Int64} {o : Int} (hd : decode code pc = .ok (.ifCond .eq o, 3)) (ho : 0 ≤ (pc : Int) + o) (hp : ((pc : Int) + o).toNat = pc') (hn : pc + 3 = pcN) (yes : x = y → Go p e below s mc ms Q m T pc' Ls st) (no : ¬ x = y → Go p e below s mc ms Q m T pcN Ls st) : Go p e below s mc ms Q m T pc Ls (.int (XT.cmpL x y) :: st) := by
  subst hn
  by_cases q : x = y
  · exact (yes q).of fun _ kk => XS.ifYes (g := mkF m pc Ls (.int (XT.cmpL x y) :: st)) X.here hx rfl (pc0 := pc) rfl (hb hby hd) rfl (XT.ll_eq_t q) ho hp kk
  · exact (no q).of fun _ kk => XS.ifNo (g := mkF m pc Ls (.int (XT.cmpL x y) :: st)) X.here hx rfl (hb hby hd) rfl (XT.ll_eq_f q) kk
theorem Go.ifL_ne (X : Stand p l e R s m args below meth c T locs cells slots) (hx : p.tables.exec = Jvm.exec) (hby : c.code = code) {pcN : Nat} {x y : Int64} {o : Int} (hd : decode code pc = .ok (.ifCond .ne o, 3)) (ho : 0 ≤ (pc : Int) + o) (hp : ((pc : Int) + o).toNat = pc') (hn : pc + 3 = pcN) (yes : ¬ x = y → Go p e below s mc ms Q m T pc' Ls st) (no : x = y → Go p e below s mc ms Q m T pcN Ls st) : Go p e below s mc ms Q m T pc Ls (.int (XT.cmpL x y) :: st) := by
  subst hn
  by_cases q : x = y
  · exact (no q).of fun _ kk => XS.ifNo (g := mkF m pc Ls (.int (XT.cmpL x y) :: st)) X.here hx rfl (hb hby hd) rfl (XT.ll_ne_f q) kk
  · exact (yes q).of fun _ kk => XS.ifYes (g := mkF m pc Ls (.int (XT.cmpL x y) :: st)) X.here hx rfl (pc0 := pc) rfl (hb hby hd) rfl (XT.ll_ne_t q) ho hp kk
theorem Go.ifL_lt (X : Stand p l e R s m args below meth c T locs cells slots) (hx : p.tables.exec = Jvm.exec) (hby : c.code = code) {pcN : Nat} {x y : Int64} {o : Int} (hd : decode code pc = .ok (.ifCond .lt o, 3)) (ho : 0 ≤ (pc : Int) + o) (hp : ((pc : Int) + o).toNat = pc') (hn : pc + 3 = pcN) (yes : x < y → Go p e below s mc ms Q m T pc' Ls st) (no : ¬ x < y → Go p e below s mc ms Q m T pcN Ls st) : Go p e below s mc ms Q m T pc Ls (.int (XT.cmpL x y) :: st) := by
  subst hn
  by_cases q : x < y
  · exact (yes q).of fun _ kk => XS.ifYes (g := mkF m pc Ls (.int (XT.cmpL x y) :: st)) X.here hx rfl (pc0 := pc) rfl (hb hby hd) rfl (XT.ll_lt_t q) ho hp kk
  · exact (no q).of fun _ kk => XS.ifNo (g := mkF m pc Ls (.int (XT.cmpL x y) :: st)) X.here hx rfl (hb hby hd) rfl (XT.ll_lt_f q) kk
theorem Go.ifL_ge (X : Stand p l e R s m args below meth c T locs cells slots) (hx : p.tables.exec = Jvm.exec) (hby : c.code = code) {pcN : Nat} {x y : Int64} {o : Int} (hd : decode code pc = .ok (.ifCond .ge o, 3)) (ho : 0 ≤ (pc : Int) + o) (hp : ((pc : Int) + o).toNat = pc') (hn : pc + 3 = pcN) (yes : ¬ x < y → Go p e below s mc ms Q m T pc' Ls st) (no : x < y → Go p e below s mc ms Q m T pcN Ls st) : Go p e below s mc ms Q m T pc Ls (.int (XT.cmpL x y) :: st) := by
  subst hn
  by_cases q : x < y
  · exact (no q).of fun _ kk => XS.ifNo (g := mkF m pc Ls (.int (XT.cmpL x y) :: st)) X.here hx rfl (hb hby hd) rfl (XT.ll_ge_f q) kk
  · exact (yes q).of fun _ kk => XS.ifYes (g := mkF m pc Ls (.int (XT.cmpL x y) :: st)) X.here hx rfl (pc0 := pc) rfl (hb hby hd) rfl (XT.ll_ge_t q) ho hp kk
theorem Go.ifL_gt (X : Stand p l e R s m args below meth c T locs cells slots) (hx : p.tables.exec = Jvm.exec) (hby : c.code = code) {pcN : Nat} {x y : Int64} {o : Int} (hd : decode code pc = .ok (.ifCond .gt o, 3)) (ho : 0 ≤ (pc : Int) + o) (hp : ((pc : Int) + o).toNat = pc') (hn : pc + 3 = pcN) (yes : y < x → Go p e below s mc ms Q m T pc' Ls st) (no : ¬ y < x → Go p e below s mc ms Q m T pcN Ls st) : Go p e below s mc ms Q m T pc Ls (.int (XT.cmpL x y) :: st) := by
  subst hn
  by_cases q : y < x
  · exact (yes q).of fun _ kk => XS.ifYes (g := mkF m pc Ls (.int (XT.cmpL x y) :: st)) X.here hx rfl (pc0 := pc) rfl (hb hby hd) rfl (XT.ll_gt_t q) ho hp kk
  · exact (no q).of fun _ kk => XS.ifNo (g := mkF m pc Ls (.int (XT.cmpL x y) :: st)) X.here hx rfl (hb hby hd) rfl (XT.ll_gt_f q) kk
theorem Go.ifL_le (X : Stand p l e R s m args below meth c T locs cells slots) (hx : p.tables.exec = Jvm.exec) (hby : c.code = code) {pcN : Nat} {x y : Int64} {o : Int} (hd : decode code pc = .ok (.ifCond .le o, 3)) (ho : 0 ≤ (pc : Int) + o) (hp : ((pc : Int) + o).toNat = pc') (hn : pc + 3 = pcN) (yes : ¬ y < x → Go p e below s mc ms Q m T pc' Ls st) (no : y < x → Go p e below s mc ms Q m T pcN Ls st) : Go p e below s mc ms Q m T pc Ls (.int (XT.cmpL x y) :: st) := by
  subst hn
  by_cases q : y < x
  · exact (no q).of fun _ kk => XS.ifNo (g := mkF m pc Ls (.int (XT.cmpL x y) :: st)) X.here hx rfl (hb hby hd) rfl (XT.ll_le_f q) kk
  · exact (yes q).of fun _ kk => XS.ifYes (g := mkF m pc Ls (.int (XT.cmpL x y) :: st)) X.here hx rfl (pc0 := pc) rfl (hb hby hd) rfl (XT.ll_le_t q) ho hp kk
theorem Go.iretI (X : Stand p l e R s m args below meth c T locs cells slots) (hx : p.tables.exec = Jvm.exec) (hby : c.code = code) (hlk : meth.locks = false) (hret : meth.sig.returnType = some .int) {w : Int32} (hd : decode code pc = .ok (.ireturn, 1)) (hc : cells ≤ mc) (hs : slots ≤ ms) (hq : Q (some (.int w)) T.heap locs) : Go p e below s mc ms Q m T pc Ls [.int w] := by
  obtain ⟨fs, hr, hrun, hended, hW, hsame⟩ := X.leave (v := some (.int w)) (fun h => by rw [hret] at h; cases h) hlk
  exact ⟨_, _, X.ireturnOut hx hret rfl (Or.inl rfl) (hb hby hd) hr, hrun, hended, _, _, rfl, hq, ⟨_, rfl⟩, hW, hsame.mono hc hs⟩
theorem Go.iretN (X : Stand p l e R s m args below meth c T locs cells slots) (hx : p.tables.exec = Jvm.exec) (hby : c.code = code) (hlk : meth.locks = false) {t : FieldType} (hret : meth.sig.returnType = some t) (ht : t = .boolean ∨ t = .byte ∨ t = .char ∨ t = .short) {w w' : Int32} (hw : nar t w = w') (hd : decode code pc = .ok (.ireturn, 1)) (hc : cells ≤ mc) (hs : slots ≤ ms) (hq : Q (some (.int w')) T.heap locs) : Go p e below s mc ms Q m T pc Ls [.int w] := by
  subst hw
  obtain ⟨fs, hr, hrun, hended, hW, hsame⟩ := X.leave (v := some (.int (nar t w))) (fun h => by rw [hret] at h; cases h) hlk
  exact ⟨_, _, retN X hx (t := t) hret ht (hb hby hd) hr, hrun, hended, _, _, rfl, hq, ⟨_, rfl⟩, hW, hsame.mono hc hs⟩
theorem Go.lret (X : Stand p l e R s m args below meth c T locs cells slots) (hx : p.tables.exec = Jvm.exec) (hby : c.code = code) (hlk : meth.locks = false) (hret : meth.sig.returnType = some .long) {w : Int64} (hd : decode code pc = .ok (.lreturn, 1)) (hc : cells ≤ mc) (hs : slots ≤ ms) (hq : Q (some (.long w)) T.heap locs) : Go p e below s mc ms Q m T pc Ls [.long w] := by
  obtain ⟨fs, hr, hrun, hended, hW, hsame⟩ := X.leave (v := some (.long w)) (fun h => by rw [hret] at h; cases h) hlk
  exact ⟨_, _, X.lreturnOut hx hret (hb hby hd) hr, hrun, hended, _, _, rfl, hq, ⟨_, rfl⟩, hW, hsame.mono hc hs⟩
theorem Go.aret (X : Stand p l e R s m args below meth c T locs cells slots) (hx : p.tables.exec = Jvm.exec) (hby : c.code = code) (hlk : meth.locks = false) {t : FieldType} (hret : meth.sig.returnType = some t) (ht : t.isReference = true) {w : Value} (hw : w.isRef = true) (hd : decode code pc = .ok (.areturn, 1)) (hc : cells ≤ mc) (hs : slots ≤ ms) (hq : Q (some w) T.heap locs) : Go p e below s mc ms Q m T pc Ls [w] := by
  obtain ⟨fs, hr, hrun, hended, hW, hsame⟩ := X.leave (v := some w) (fun h => by rw [hret] at h; cases h) hlk
  exact ⟨_, _, X.areturnOut hx hw hret ht (hb hby hd) hr, hrun, hended, _, _, rfl, hq, ⟨_, rfl⟩, hW, hsame.mono hc hs⟩
theorem Go.vret (X : Stand p l e R s m args below meth c T locs cells slots) (hx : p.tables.exec = Jvm.exec) (hby : c.code = code) (hlk : meth.locks = false) (hret : meth.sig.returnType = none) (hd : decode code pc = .ok (.return_, 1)) (hc : cells ≤ mc) (hs : slots ≤ ms) (hq : Q none T.heap locs) : Go p e below s mc ms Q m T pc Ls [] := by
  obtain ⟨fs, hr, hrun, hended, hW, hsame⟩ := X.leave (v := none) (fun _ => rfl) hlk
  exact ⟨_, _, X.returnOut hx hret (hb hby hd) hr, hrun, hended, _, _, rfl, hq, ⟨_, rfl⟩, hW, hsame.mono hc hs⟩
/-- what a body that keeps the heap leaves -/
def PQ (h0 : Heap) (r : Option Value) (v : Option Value) (h : Heap) (L : List Loc) : Prop := v = r ∧ L = [] ∧ h = h0
theorem Go.callS (X : Stand p l e R s m args below meth c T locs cells slots) (hx : p.tables.exec = Jvm.exec) (hby : c.code = code) {Z : State} {a0 : Array Value} {h : Heap} (hZ : Z.Warmed39 s.vm) (hml : Ls.size = c.maxLocals) {own : String} {k : Nat} {y : MethodName} {bytes : ByteArray} {maxL : Nat} {ret : Option FieldType} {rm : Room} {W : Nat} {as' : Array Value} {QY : Option Value → Heap → List Loc → Prop}
    (hown : s.vm.findClass own = some m.cls) (w1 : (Cond.methodLink own k y).before a0 Z = true) (w2 : (Cond.static y).before a0 Z = true) (w3 : (Cond.initialized y.cls).before a0 Z = true) (w4 : (Cond.code y bytes maxL ret).before a0 Z = true) (hy : y.cls ≠ "java/lang/invoke/MethodHandle" ∧ y.cls ≠ "java/lang/invoke/VarHandle")
    (hM : MetFree l y (head1 [Cond.code y bytes maxL ret] rm) (fun a U => a = as' ∧ Z.Warmed39 U.vm ∧ U.heap = h) (fun _ _ _ _ _ => True) (fun _ U o U' => ∃ v L, o = .returned v ∧ QY v U'.heap L ∧ FrameEnd U o U' L rm.cells rm.slots))
    (hf : rm.frames + 1 ≤ R.frames) (hl : W + (maxL + 11) + rm.locals ≤ R.locals) (eT : T.heap = h) {argsL rest : List Value} {sig : MethodDescriptor} (hsig : parseMethodDescriptor y.desc = some sig) (hlen : argsL.length = sig.parameters.length) (has : argsL.toArray = as') (hst : st = argsL.reverse ++ rest) (hW : (rest.map fun v => v.category).sum ≤ W)
    (hc : cells + rm.cells ≤ R.cells) (hsl : slots + rm.slots ≤ R.slots) (hd : decode code pc = .ok (.invokestatic k, 3)) (hpc : pc + 3 = pc')
    (K : ∀ v T' L, Stand p l e R s m args below meth c T' (locs ++ L) (cells + rm.cells) (slots + rm.slots) → QY v T'.heap L → Go p e below s mc ms Q m T' pc' Ls (v.toList ++ rest)) : Go p e below s mc ms Q m T pc Ls st := by
  subst hpc hst has
  obtain ⟨v, vm₁, B, -, X', ⟨L, hQ, l1, l2, l3⟩, st⟩ := Jvm.LawKit.callS X hx hown (mvT hZ w1) (mvT hZ w2) (mvT hZ w3) (mvT hZ w4) hy (backOf (W := W) hM hZ w4 w3 hf hl) (g := mkF m pc Ls (argsL.reverse ++ rest)) rfl hml (argsL := argsL) (rest := rest) (lenOf hsig hlen) rfl (by show 2 * 0 + _ ≤ _; omega) (hb hby hd) (fun _ _ => ⟨rfl, eT, hc, hsl⟩)
  rw [l1, l2, l3] at X'
  exact (K v B.U L X' hQ).of st
theorem Go.callSP (X : Stand p l e R s m args below meth c T locs cells slots) (hx : p.tables.exec = Jvm.exec) (hby : c.code = code) {Z : State} {a0 : Array Value} {h : Heap} (hZ : Z.Warmed39 s.vm) (hml : Ls.size = c.maxLocals) {own : String} {k : Nat} {y : MethodName} {bytes : ByteArray} {maxL : Nat} {ret : Option FieldType} {rm : Room} {W : Nat} {as' : Array Value} {r : Value}
    (hown : s.vm.findClass own = some m.cls) (w1 : (Cond.methodLink own k y).before a0 Z = true) (w2 : (Cond.static y).before a0 Z = true) (w3 : (Cond.initialized y.cls).before a0 Z = true) (w4 : (Cond.code y bytes maxL ret).before a0 Z = true) (hy : y.cls ≠ "java/lang/invoke/MethodHandle" ∧ y.cls ≠ "java/lang/invoke/VarHandle")
    (hM : MetFree l y (head1 [Cond.code y bytes maxL ret] rm) (fun a U => a = as' ∧ Z.Warmed39 U.vm ∧ U.heap = h) (fun _ _ _ _ _ => True) (fun _ U o U' => ∃ v L, o = .returned v ∧ PQ h (some r) v U'.heap L ∧ FrameEnd U o U' L rm.cells rm.slots))
    (hf : rm.frames + 1 ≤ R.frames) (hl : W + (maxL + 11) + rm.locals ≤ R.locals) (eT : T.heap = h) {argsL rest : List Value} {sig : MethodDescriptor} (hsig : parseMethodDescriptor y.desc = some sig) (hlen : argsL.length = sig.parameters.length) (has : argsL.toArray = as') (hst : st = argsL.reverse ++ rest) (hW : (rest.map fun v => v.category).sum ≤ W)
    (r1 : rm.cells = 0) (r2 : rm.slots = 0) (hc : cells ≤ R.cells) (hsl : slots ≤ R.slots) (hd : decode code pc = .ok (.invokestatic k, 3)) (hpc : pc + 3 = pc')
    (K : ∀ T', Stand p l e R s m args below meth c T' locs cells slots → T'.heap = h → Go p e below s mc ms Q m T' pc' Ls (r :: rest)) : Go p e below s mc ms Q m T pc Ls st := by
  refine Go.callS X hx hby hZ hml hown w1 w2 w3 w4 hy hM hf hl eT hsig hlen has hst hW (by rw [r1]; exact hc) (by rw [r2]; exact hsl) hd hpc (fun v T' L X' hQ => ?_)
  obtain ⟨rfl, rfl, e1⟩ := hQ
  rw [List.append_nil, r1, r2] at X'
  exact K T' X' e1
end Law

/-- the place j is in the list -/
abbrev inA {α : Type} (A : List α) (j : Int32) : Prop := ¬ (j < 0 ∨ A.length ≤ j.toNatClampNeg)
def atA {α : Type} [OfNat α 0] (A : List α) (j : Int32) : α := A.getD j.toNatClampNeg 0
def setA {α : Type} (A : List α) (j : Int32) (v : α) : List α := A.set j.toNatClampNeg v
def lenA {α : Type} (A : List α) : Int32 := A.length.toInt32
/-- an array of ints, bytes, chars that holds the list -/
def AryI (Z : State) (h : Heap) (a : Addr) (ty : FieldType) (A : List Int32) : Prop := ∃ (k : ClassId) (z : Int32), Arv Z h a k ty z (A.map Value.int) (.int 0) ∧ z.toNatClampNeg = A.length
def AryJ (Z : State) (h : Heap) (a : Addr) (A : List Int64) : Prop := ∃ (k : ClassId) (z : Int32), Arv Z h a k .long z (A.map Value.long) (.long 0) ∧ z.toNatClampNeg = A.length
theorem own_inK {α : Type} {A : List α} {j : Int32} {n : Nat} (hl : A.length = n) (hj : ¬ (j < 0 ∨ n ≤ j.toNatClampNeg)) : inA A j := by subst hl; exact hj
section Heaps
variable {p : Program} {l : Launch} {e : Env} {R : Room} {s : State} {m : MethodId} {args : Array Value} {below : List Frame} {meth : Method} {c : Code} {T T' : State} {locs : List Loc} {cells slots : Nat} {code : ByteArray} {Q : Option Value → Heap → List Loc → Prop} {mc ms : Nat} {pc pc' : Nat} {Ls Ls' : Array Slot} {st st' rest : List Value}
variable {Z : State} {h h' : Heap} {a b : Addr} {ty : FieldType} {A : List Int32} {J : List Int64} {sl : Nat} {v : Value} {ws : List Addr} {a0 : Array Value}
theorem AryI.lt (F : AryI Z h a ty A) : a < h.size := by obtain ⟨k, z, V, -⟩ := F; exact V.lt
theorem AryI.ext (F : AryI Z h a ty A) (E : Ext h h') : AryI Z h' a ty A := by obtain ⟨k, z, V, q⟩ := F; exact ⟨k, z, V.ext E, q⟩
theorem AryI.other (F : AryI Z h b ty A) (W : Wr h h' a sl v) (q : b ≠ a) : AryI Z h' b ty A := by obtain ⟨k, z, V, r⟩ := F; exact ⟨k, z, V.other W q, r⟩
theorem AryI.keep (F : AryI Z h a ty A) (K : Keep h h' ws) (q : a ∉ ws) : AryI Z h' a ty A := by obtain ⟨k, z, V, r⟩ := F; exact ⟨k, z, V.keep K q, r⟩
theorem AryJ.lt (F : AryJ Z h a J) : a < h.size := by obtain ⟨k, z, V, -⟩ := F; exact V.lt
theorem AryJ.ext (F : AryJ Z h a J) (E : Ext h h') : AryJ Z h' a J := by obtain ⟨k, z, V, q⟩ := F; exact ⟨k, z, V.ext E, q⟩
theorem AryJ.other (F : AryJ Z h b J) (W : Wr h h' a sl v) (q : b ≠ a) : AryJ Z h' b J := by obtain ⟨k, z, V, r⟩ := F; exact ⟨k, z, V.other W q, r⟩
theorem AryJ.keep (F : AryJ Z h a J) (K : Keep h h' ws) (q : a ∉ ws) : AryJ Z h' a J := by obtain ⟨k, z, V, r⟩ := F; exact ⟨k, z, V.keep K q, r⟩
theorem own_getI (A : List Int32) (n : Nat) : (A.map Value.int).getD n (.int 0) = .int (A.getD n 0) := by
  simp only [List.getD_eq_getElem?_getD, List.getElem?_map]; cases A[n]? <;> rfl
theorem own_getJ (A : List Int64) (n : Nat) : (A.map Value.long).getD n (.long 0) = .long (A.getD n 0) := by
  simp only [List.getD_eq_getElem?_getD, List.getElem?_map]; cases A[n]? <;> rfl
theorem own_fin {α : Type} {w r : α} {P : α → Prop} (e : some w = some r) (h : P w) : P r := Option.some.inj e ▸ h
theorem Go.baload (X : Stand p l e R s m args below meth c T locs cells slots) (hx : p.tables.exec = Jvm.exec) (hby : c.code = code) (hZ : Z.Warmed39 s.vm) (eT : T.heap = h) (F : AryI Z h a .byte A) {j : Int32} (hj : inA A j) (hd : decode code pc = .ok (.baload, 1)) (hpc : pc + 1 = pc') (K : Go p e below s mc ms Q m T pc' Ls (.int (atA A j) :: st)) : Go p e below s mc ms Q m T pc Ls (.int j :: .ref a :: st) := by
  subst hpc
  obtain ⟨k, z, ⟨cl, Ar, q1, S, q3, H, -⟩, r⟩ := F
  have hin : ¬ (j < 0 ∨ cl.slots.size ≤ j.toNatClampNeg) := by rw [S, r]; exact hj
  have hv : cl.slots[j.toNatClampNeg]? = some (.int (atA A j)) := by rw [H _ (Nat.lt_of_not_le fun y => hin (Or.inr y)), own_getI]; rfl
  exact K.of fun t kk => X.baloadBytes hx (by rw [eT]; exact Ar.1) (State.isArrayOf_alike hZ.alike Ar.2.1) Ar.2.2 hin hv (g := mkF m pc Ls (.int j :: .ref a :: st)) rfl rfl (hb hby hd) t kk
theorem Go.caload (X : Stand p l e R s m args below meth c T locs cells slots) (hx : p.tables.exec = Jvm.exec) (hby : c.code = code) (hZ : Z.Warmed39 s.vm) (eT : T.heap = h) (F : AryI Z h a .char A) {j : Int32} (hj : inA A j) (hd : decode code pc = .ok (.caload, 1)) (hpc : pc + 1 = pc') (K : Go p e below s mc ms Q m T pc' Ls (.int (atA A j) :: st)) : Go p e below s mc ms Q m T pc Ls (.int j :: .ref a :: st) := by
  subst hpc
  obtain ⟨k, z, ⟨cl, Ar, q1, S, q3, H, -⟩, r⟩ := F
  have hin : ¬ (j < 0 ∨ cl.slots.size ≤ j.toNatClampNeg) := by rw [S, r]; exact hj
  have hv : cl.slots[j.toNatClampNeg]? = some (.int (atA A j)) := by rw [H _ (Nat.lt_of_not_le fun y => hin (Or.inr y)), own_getI]; rfl
  exact K.of fun t kk => X.caload hx (by rw [eT]; exact Ar.1) (State.isArrayOf_alike hZ.alike Ar.2.1) Ar.2.2 hin hv (g := mkF m pc Ls (.int j :: .ref a :: st)) rfl rfl (hb hby hd) t kk
theorem Go.iaload (X : Stand p l e R s m args below meth c T locs cells slots) (hx : p.tables.exec = Jvm.exec) (hby : c.code = code) (hZ : Z.Warmed39 s.vm) (eT : T.heap = h) (F : AryI Z h a .int A) {j : Int32} (hj : inA A j) (hd : decode code pc = .ok (.iaload, 1)) (hpc : pc + 1 = pc') (K : Go p e below s mc ms Q m T pc' Ls (.int (atA A j) :: st)) : Go p e below s mc ms Q m T pc Ls (.int j :: .ref a :: st) := by
  subst hpc
  obtain ⟨k, z, ⟨cl, Ar, q1, S, q3, H, -⟩, r⟩ := F
  have hin : ¬ (j < 0 ∨ cl.slots.size ≤ j.toNatClampNeg) := by rw [S, r]; exact hj
  have hv : cl.slots[j.toNatClampNeg]? = some (.int (atA A j)) := by rw [H _ (Nat.lt_of_not_le fun y => hin (Or.inr y)), own_getI]; rfl
  exact K.of fun t kk => X.iaload hx (by rw [eT]; exact Ar.1) (State.isArrayOf_alike hZ.alike Ar.2.1) Ar.2.2 hin hv (g := mkF m pc Ls (.int j :: .ref a :: st)) rfl rfl (hb hby hd) t kk
theorem Go.laload (X : Stand p l e R s m args below meth c T locs cells slots) (hx : p.tables.exec = Jvm.exec) (hby : c.code = code) (hZ : Z.Warmed39 s.vm) (eT : T.heap = h) (F : AryJ Z h a J) {j : Int32} (hj : inA J j) (hd : decode code pc = .ok (.laload, 1)) (hpc : pc + 1 = pc') (K : Go p e below s mc ms Q m T pc' Ls (.long (atA J j) :: st)) : Go p e below s mc ms Q m T pc Ls (.int j :: .ref a :: st) := by
  subst hpc
  obtain ⟨k, z, ⟨cl, Ar, q1, S, q3, H, -⟩, r⟩ := F
  have hin : ¬ (j < 0 ∨ cl.slots.size ≤ j.toNatClampNeg) := by rw [S, r]; exact hj
  have hv : cl.slots[j.toNatClampNeg]? = some (.long (atA J j)) := by rw [H _ (Nat.lt_of_not_le fun y => hin (Or.inr y)), own_getJ]; rfl
  exact K.of fun t kk => X.laload hx (by rw [eT]; exact Ar.1) (State.isArrayOf_alike hZ.alike Ar.2.1) Ar.2.2 hin hv (g := mkF m pc Ls (.int j :: .ref a :: st)) rfl rfl (hb hby hd) t kk
theorem Go.alen (X : Stand p l e R s m args below meth c T locs cells slots) (hx : p.tables.exec = Jvm.exec) (hby : c.code = code) (hZ : Z.Warmed39 s.vm) (eT : T.heap = h) (F : AryI Z h a ty A) (hd : decode code pc = .ok (.arraylength, 1)) (hpc : pc + 1 = pc') (K : Go p e below s mc ms Q m T pc' Ls (.int (lenA A) :: st)) : Go p e below s mc ms Q m T pc Ls (.ref a :: st) := by
  subst hpc
  obtain ⟨k, z, ⟨cl, Ar, q1, S, q3, H, -⟩, r⟩ := F
  have e2 : cl.slots.size.toInt32 = lenA A := by rw [S, r]; rfl
  exact K.of fun t kk => X.arraylength hx (by rw [eT]; exact Ar.1) (State.isArrayOf_alike hZ.alike Ar.2.1) (g := mkF m pc Ls (.ref a :: st)) rfl rfl (hb hby hd) t (by rw [e2]; exact kk)
theorem Go.alenJ (X : Stand p l e R s m args below meth c T locs cells slots) (hx : p.tables.exec = Jvm.exec) (hby : c.code = code) (hZ : Z.Warmed39 s.vm) (eT : T.heap = h) (F : AryJ Z h a J) (hd : decode code pc = .ok (.arraylength, 1)) (hpc : pc + 1 = pc') (K : Go p e below s mc ms Q m T pc' Ls (.int (lenA J) :: st)) : Go p e below s mc ms Q m T pc Ls (.ref a :: st) := by
  subst hpc
  obtain ⟨k, z, ⟨cl, Ar, q1, S, q3, H, -⟩, r⟩ := F
  have e2 : cl.slots.size.toInt32 = lenA J := by rw [S, r]; rfl
  exact K.of fun t kk => X.arraylength hx (by rw [eT]; exact Ar.1) (State.isArrayOf_alike hZ.alike Ar.2.1) (g := mkF m pc Ls (.ref a :: st)) rfl rfl (hb hby hd) t (by rw [e2]; exact kk)
theorem Go.bastore (X : Stand p l e R s m args below meth c T locs cells slots) (hx : p.tables.exec = Jvm.exec) (hby : c.code = code) (hZ : Z.Warmed39 s.vm) (eT : T.heap = h) (F : AryI Z h a .byte A) {j x : Int32} (hj : inA A j) (hd : decode code pc = .ok (.bastore, 1)) (hpc : pc + 1 = pc') (K : ∀ T' h', Stand p l e R s m args below meth c T' (locs ++ [⟨a, j.toNatClampNeg⟩]) cells slots → T'.heap = h' → Wr h h' a j.toNatClampNeg (.int (i2bF x)) → AryI Z h' a .byte (setA A j (i2bF x)) → Go p e below s mc ms Q m T' pc' Ls st) : Go p e below s mc ms Q m T pc Ls (.int x :: .int j :: .ref a :: st) := by
  subst hpc
  obtain ⟨k, z, ⟨cl, Ar, q1, S, q3, H, H2⟩, r⟩ := F
  have hin : ¬ (j < 0 ∨ cl.slots.size ≤ j.toNatClampNeg) := by rw [S, r]; exact hj
  obtain ⟨T', h', X', e', W, stp⟩ := stB X hx hZ eT Ar hin (g := mkF m pc Ls (.int x :: .int j :: .ref a :: st)) rfl rfl (hb hby hd)
  have V := Arv.set (v := .int (i2bF x)) Ar q1 S q3 H H2 (fits_nar_byte x) W j.toNatClampNeg rfl (by rw [List.length_map]; exact Nat.lt_of_not_le fun y => hj (Or.inr y))
  exact (K T' h' X' e' W ⟨k, z, by rw [setA, List.map_set]; exact V, by rw [setA, List.length_set]; exact r⟩).of stp
theorem Go.castore (X : Stand p l e R s m args below meth c T locs cells slots) (hx : p.tables.exec = Jvm.exec) (hby : c.code = code) (hZ : Z.Warmed39 s.vm) (eT : T.heap = h) (F : AryI Z h a .char A) {j x : Int32} (hj : inA A j) (hd : decode code pc = .ok (.castore, 1)) (hpc : pc + 1 = pc') (K : ∀ T' h', Stand p l e R s m args below meth c T' (locs ++ [⟨a, j.toNatClampNeg⟩]) cells slots → T'.heap = h' → Wr h h' a j.toNatClampNeg (.int (i2cF x)) → AryI Z h' a .char (setA A j (i2cF x)) → Go p e below s mc ms Q m T' pc' Ls st) : Go p e below s mc ms Q m T pc Ls (.int x :: .int j :: .ref a :: st) := by
  subst hpc
  obtain ⟨k, z, ⟨cl, Ar, q1, S, q3, H, H2⟩, r⟩ := F
  have hin : ¬ (j < 0 ∨ cl.slots.size ≤ j.toNatClampNeg) := by rw [S, r]; exact hj
  obtain ⟨T', h', X', e', W, stp⟩ := stC X hx hZ eT Ar hin (g := mkF m pc Ls (.int x :: .int j :: .ref a :: st)) rfl rfl (hb hby hd)
  have V := Arv.set (v := .int (i2cF x)) Ar q1 S q3 H H2 (fits_nar_char x) W j.toNatClampNeg rfl (by rw [List.length_map]; exact Nat.lt_of_not_le fun y => hj (Or.inr y))
  exact (K T' h' X' e' W ⟨k, z, by rw [setA, List.map_set]; exact V, by rw [setA, List.length_set]; exact r⟩).of stp
theorem Go.iastore (X : Stand p l e R s m args below meth c T locs cells slots) (hx : p.tables.exec = Jvm.exec) (hby : c.code = code) (hZ : Z.Warmed39 s.vm) (eT : T.heap = h) (F : AryI Z h a .int A) {j x : Int32} (hj : inA A j) (hd : decode code pc = .ok (.iastore, 1)) (hpc : pc + 1 = pc') (K : ∀ T' h', Stand p l e R s m args below meth c T' (locs ++ [⟨a, j.toNatClampNeg⟩]) cells slots → T'.heap = h' → Wr h h' a j.toNatClampNeg (.int x) → AryI Z h' a .int (setA A j x) → Go p e below s mc ms Q m T' pc' Ls st) : Go p e below s mc ms Q m T pc Ls (.int x :: .int j :: .ref a :: st) := by
  subst hpc
  obtain ⟨k, z, ⟨cl, Ar, q1, S, q3, H, H2⟩, r⟩ := F
  have hin : ¬ (j < 0 ∨ cl.slots.size ≤ j.toNatClampNeg) := by rw [S, r]; exact hj
  obtain ⟨T', h', X', e', W, stp⟩ := stI X hx hZ eT Ar hin (g := mkF m pc Ls (.int x :: .int j :: .ref a :: st)) rfl rfl (hb hby hd)
  have V := Arv.set (v := .int x) Ar q1 S q3 H H2 rfl W j.toNatClampNeg rfl (by rw [List.length_map]; exact Nat.lt_of_not_le fun y => hj (Or.inr y))
  exact (K T' h' X' e' W ⟨k, z, by rw [setA, List.map_set]; exact V, by rw [setA, List.length_set]; exact r⟩).of stp
theorem Go.lastore (X : Stand p l e R s m args below meth c T locs cells slots) (hx : p.tables.exec = Jvm.exec) (hby : c.code = code) (hZ : Z.Warmed39 s.vm) (eT : T.heap = h) (F : AryJ Z h a J) {j : Int32} {x : Int64} (hj : inA J j) (hd : decode code pc = .ok (.lastore, 1)) (hpc : pc + 1 = pc') (K : ∀ T' h', Stand p l e R s m args below meth c T' (locs ++ [⟨a, j.toNatClampNeg⟩]) cells slots → T'.heap = h' → Wr h h' a j.toNatClampNeg (.long x) → AryJ Z h' a (setA J j x) → Go p e below s mc ms Q m T' pc' Ls st) : Go p e below s mc ms Q m T pc Ls (.long x :: .int j :: .ref a :: st) := by
  subst hpc
  obtain ⟨k, z, ⟨cl, Ar, q1, S, q3, H, H2⟩, r⟩ := F
  have hin : ¬ (j < 0 ∨ cl.slots.size ≤ j.toNatClampNeg) := by rw [S, r]; exact hj
  obtain ⟨T', h', X', e', W, stp⟩ := stJ X hx hZ eT Ar hin (g := mkF m pc Ls (.long x :: .int j :: .ref a :: st)) rfl rfl (hb hby hd)
  have V := Arv.set (v := .long x) Ar q1 S q3 H H2 rfl W j.toNatClampNeg rfl (by rw [List.length_map]; exact Nat.lt_of_not_le fun y => hj (Or.inr y))
  exact (K T' h' X' e' W ⟨k, z, by rw [setA, List.map_set]; exact V, by rw [setA, List.length_set]; exact r⟩).of stp
theorem Go.newA (X : Stand p l e R s m args below meth c T locs cells slots) (hx : p.tables.exec = Jvm.exec) (hby : c.code = code) (hZ : Z.Warmed39 s.vm) {nn : Nat} {n : Int32} {aty : ArrayType} (w : (Cond.arrayClass ty).before a0 Z = true) (eT : T.heap = h) (hd : decode code pc = .ok (.newarray aty, 2)) (hpc : pc + 2 = pc') (ht : newarray.typeOf aty = ty) (hv : defaultValue ty = .int 0) (hn : n.toNatClampNeg = nn) (hn0 : ¬ n < 0) (hcap : nn * 8 ≤ 536870912) (hc : cells + 1 ≤ R.cells) (hsl : slots + nn ≤ R.slots)
    (K : ∀ T' h' (a : Addr), Stand p l e R s m args below meth c T' locs (cells + 1) (slots + nn) → T'.heap = h' → Ext h h' → h.size ≤ a → AryI Z h' a ty (List.replicate nn 0) → Go p e below s mc ms Q m T' pc' Ls (.ref a :: st)) : Go p e below s mc ms Q m T pc Ls (.int n :: st) := by
  subst hpc ht
  obtain ⟨T', h', cA, X', e', E, Ar, stp⟩ := newP X hx hZ w eT (g := mkF m pc Ls (.int n :: st)) rfl (hb hby hd) rfl hn0 (cap := nn) (Nat.le_of_eq hn) hcap hc hsl
  have V := Arv.new Ar hn0
  rw [hv] at V
  have V2 := Arv.pad V (vs' := (List.replicate nn (0 : Int32)).map Value.int) (fun i => by rw [List.map_replicate]; exact pad_rep [] (.int 0) nn i)
  exact (K T' h' h.size X' e' E (Nat.le_refl _) ⟨cA, n, V2, by rw [hn, List.length_replicate]⟩).of stp
theorem Go.newAJ (X : Stand p l e R s m args below meth c T locs cells slots) (hx : p.tables.exec = Jvm.exec) (hby : c.code = code) (hZ : Z.Warmed39 s.vm) {nn : Nat} {n : Int32} (w : (Cond.arrayClass .long).before a0 Z = true) (eT : T.heap = h) (hd : decode code pc = .ok (.newarray .long, 2)) (hpc : pc + 2 = pc') (hn : n.toNatClampNeg = nn) (hn0 : ¬ n < 0) (hcap : nn * 8 ≤ 536870912) (hc : cells + 1 ≤ R.cells) (hsl : slots + nn ≤ R.slots)
    (K : ∀ T' h' (a : Addr), Stand p l e R s m args below meth c T' locs (cells + 1) (slots + nn) → T'.heap = h' → Ext h h' → h.size ≤ a → AryJ Z h' a (List.replicate nn 0) → Go p e below s mc ms Q m T' pc' Ls (.ref a :: st)) : Go p e below s mc ms Q m T pc Ls (.int n :: st) := by
  subst hpc
  obtain ⟨T', h', cA, X', e', E, Ar, stp⟩ := newP (aty := .long) X hx hZ w eT (g := mkF m pc Ls (.int n :: st)) rfl (hb hby hd) rfl hn0 (cap := nn) (Nat.le_of_eq hn) hcap hc hsl
  have V : Arv Z h' h.size cA .long n [] (.long 0) := Arv.new Ar hn0
  have V2 := Arv.pad V (vs' := (List.replicate nn (0 : Int64)).map Value.long) (fun i => by rw [List.map_replicate]; exact pad_rep [] (.long 0) nn i)
  exact (K T' h' h.size X' e' E (Nat.le_refl _) ⟨cA, n, V2, by rw [hn, List.length_replicate]⟩).of stp
theorem Go.ifnullNo (X : Stand p l e R s m args below meth c T locs cells slots) (hx : p.tables.exec = Jvm.exec) (hby : c.code = code) {o : Int} (hd : decode code pc = .ok (.ifnull o, 3)) (hpc : pc + 3 = pc') (K : Go p e below s mc ms Q m T pc' Ls st) : Go p e below s mc ms Q m T pc Ls (.ref a :: st) := by
  subst hpc; exact K.of fun _ kk => XS.ifnullNo (g := mkF m pc Ls (.ref a :: st)) X.here hx rfl (hb hby hd) rfl kk
theorem Go.acmpNe (X : Stand p l e R s m args below meth c T locs cells slots) (hx : p.tables.exec = Jvm.exec) (hby : c.code = code) {o : Int} (hd : decode code pc = .ok (.if_acmp .eq o, 3)) (hpc : pc + 3 = pc') (hne : a ≠ b) (K : Go p e below s mc ms Q m T pc' Ls st) : Go p e below s mc ms Q m T pc Ls (.ref b :: .ref a :: st) := by
  subst hpc; exact K.of fun _ kk => XT.acmpNo (g := mkF m pc Ls (.ref b :: .ref a :: st)) X.here hx rfl (hb hby hd) rfl rfl rfl (XT.aa_eq_f fun q => hne (Value.ref.inj q)) kk
theorem Go.getF (X : Stand p l e R s m args below meth c T locs cells slots) (hx : p.tables.exec = Jvm.exec) (hby : c.code = code) (hZ : Z.Warmed39 s.vm) {own O n d : String} {k : Nat} {v : Value} (hown : s.vm.findClass own = some m.cls) (w : (Cond.fieldLink own k O n d).before a0 Z = true) (eT : T.heap = h) (F : Fld Z h a O n d v) (hd : decode code pc = .ok (.getfield k, 3)) (hpc : pc + 3 = pc') (K : ∀ T', Stand p l e R s m args below meth c T' locs cells slots → T'.heap = h → Go p e below s mc ms Q m T' pc' Ls (v :: st)) : Go p e below s mc ms Q m T pc Ls (.ref a :: st) := by
  subst hpc
  obtain ⟨T', X', e', stp⟩ := getF X hx hZ hown (host := "") (Or.inl w) Via.refl eT F (g := mkF m pc Ls (.ref a :: st)) rfl rfl (hb hby hd)
  exact (K T' X' e').of stp
theorem Go.putF (X : Stand p l e R s m args below meth c T locs cells slots) (hx : p.tables.exec = Jvm.exec) (hby : c.code = code) (hZ : Z.Warmed39 s.vm) {own O n d C : String} {k kk : Nat} {ty : FieldType} {v old : Value} (hown : s.vm.findClass own = some m.cls) (w : (Cond.fieldLink own k O n d).before a0 Z = true) (eT : T.heap = h) (F : Fld Z h a O n d old) (E : Exa Z h a C) (L : (Cond.lays C O n d).before a0 Z = true ∨ ((Cond.laysFinal C O n d).before a0 Z = true ∧ own = O ∧ meth.name = "<init>")) (wi : (Cond.instantiable C kk).before a0 Z = true)
    (hty : parseFieldDescriptor d = some ty) (hn : narrow ty v = v) (hf : fits ty v = true) (hd : decode code pc = .ok (.putfield k, 3)) (hpc : pc + 3 = pc') (K : ∀ T' h', Stand p l e R s m args below meth c T' (locs ++ [⟨a, RoadKit.slotOf Z O n d⟩]) cells slots → T'.heap = h' → Wr h h' a (RoadKit.slotOf Z O n d) v → Go p e below s mc ms Q m T' pc' Ls st) : Go p e below s mc ms Q m T pc Ls (v :: .ref a :: st) := by
  subst hpc
  obtain ⟨T', h', X', e', W, stp⟩ := putF X hx hZ hown (host := "") (Or.inl w) Via.refl eT F E L wi hty hn hf (g := mkF m pc Ls (v :: .ref a :: st)) rfl rfl (hb hby hd)
  exact (K T' h' X' e' W).of stp
theorem Go.newO (X : Stand p l e R s m args below meth c T locs cells slots) (hx : p.tables.exec = Jvm.exec) (hby : c.code = code) (hZ : Z.Warmed39 s.vm) {own C : String} {k n : Nat} (hown : s.vm.findClass own = some m.cls) (w : (Cond.classLink own k C).before a0 Z = true) (wi : (Cond.instantiable C n).before a0 Z = true) (wz : (Cond.initialized C).before a0 Z = true) (eT : T.heap = h) (hd : decode code pc = .ok (.new k, 3)) (hpc : pc + 3 = pc') (hc : cells + 1 ≤ R.cells) (hsl : slots + n ≤ R.slots)
    (K : ∀ T' h' (a : Addr), Stand p l e R s m args below meth c T' locs (cells + 1) (slots + n) → T'.heap = h' → Ext h h' → h.size ≤ a → Exa Z h' a C → (∀ {O nm d : String} {ty : FieldType}, Laid Z a0 C O nm d → parseFieldDescriptor d = some ty → Fld Z h' a O nm d (defaultValue ty)) → Go p e below s mc ms Q m T' pc' Ls (.ref a :: st)) : Go p e below s mc ms Q m T pc Ls st := by
  subst hpc
  obtain ⟨T', h', X', e', E, A, D, -, stp⟩ := newO X hx hZ hown w wi wz eT (g := mkF m pc Ls st) rfl (hb hby hd) hc hsl
  exact (K T' h' h.size X' e' E (Nat.le_refl _) A D).of stp
theorem Go.callV (X : Stand p l e R s m args below meth c T locs cells slots) (hx : p.tables.exec = Jvm.exec) (hby : c.code = code) (hZ : Z.Warmed39 s.vm) (hml : Ls.size = c.maxLocals) {own : String} {k : Nat} {y : MethodName} {bytes : ByteArray} {maxL : Nat} {ret : Option FieldType} {rm : Room} {W : Nat} {as' : Array Value} {C : String} {QY : Option Value → Heap → List Loc → Prop} (hown : s.vm.findClass own = some m.cls) (w1 : (Cond.methodLink own k y).before a0 Z = true) (w2 : (Cond.declares y).before a0 Z = true) (w3 : (Cond.selects C y y).before a0 Z = true) (w4 : (Cond.instanceMethod y).before a0 Z = true) (w5 : (Cond.initialized y.cls).before a0 Z = true) (w6 : (Cond.code y bytes maxL ret).before a0 Z = true) (E : Exa Z h a C) (hy : y.cls ≠ "java/lang/invoke/MethodHandle" ∧ y.cls ≠ "java/lang/invoke/VarHandle") (hM : MetFree l y (head1 [Cond.code y bytes maxL ret] rm) (fun a U => a = as' ∧ Z.Warmed39 U.vm ∧ U.heap = h) (fun _ _ _ _ _ => True) (fun _ U o U' => ∃ v L, o = .returned v ∧ QY v U'.heap L ∧ FrameEnd U o U' L rm.cells rm.slots))
    (hf : rm.frames + 1 ≤ R.frames) (hl : W + (maxL + 11) + rm.locals ≤ R.locals) (eT : T.heap = h) {argsL rest : List Value} {sig : MethodDescriptor} (hsig : parseMethodDescriptor y.desc = some sig) (hlen : argsL.length = sig.parameters.length) (has : (Value.ref a :: argsL).toArray = as') (hst : st = argsL.reverse ++ .ref a :: rest) (hW : (rest.map fun v => v.category).sum ≤ W) (hc : cells + rm.cells ≤ R.cells) (hsl : slots + rm.slots ≤ R.slots) (hd : decode code pc = .ok (.invokevirtual k, 3)) (hpc : pc + 3 = pc')
    (K : ∀ v T' L, Stand p l e R s m args below meth c T' (locs ++ L) (cells + rm.cells) (slots + rm.slots) → QY v T'.heap L → Go p e below s mc ms Q m T' pc' Ls (v.toList ++ rest)) : Go p e below s mc ms Q m T pc Ls st := by
  subst hpc hst has
  obtain ⟨cq, kq, qa, qb, qc⟩ := isOf hZ eT E
  obtain ⟨v, vm₁, B, -, X', ⟨L, hQ, l1, l2, l3⟩, stp⟩ := X.virtualBack hx hown (mvT hZ w1) (mvT hZ w2) (notFace_of_selects (args := #[]) (mvT hZ w3)) (mvT hZ w3) (mvT hZ w4) hy (backOf (W := W) hM hZ w6 w5 hf hl) qa qc (g := mkF m pc Ls (argsL.reverse ++ .ref a :: rest)) rfl hml (Steps.refl _) (argsL := argsL) (rest := rest) (lenOf hsig hlen) rfl (by show 2 * 0 + _ ≤ _; omega) (hb hby hd) (fun _ _ => ⟨rfl, eT, hc, hsl⟩)
  rw [l1, l2, l3] at X'
  exact (K v B.U L X' hQ).of fun _ k => stp.trans k
theorem Go.callVP (X : Stand p l e R s m args below meth c T locs cells slots) (hx : p.tables.exec = Jvm.exec) (hby : c.code = code) (hZ : Z.Warmed39 s.vm) (hml : Ls.size = c.maxLocals) {own : String} {k : Nat} {y : MethodName} {bytes : ByteArray} {maxL : Nat} {ret : Option FieldType} {rm : Room} {W : Nat} {as' : Array Value} {C : String} {r : Value} (hown : s.vm.findClass own = some m.cls) (w1 : (Cond.methodLink own k y).before a0 Z = true) (w2 : (Cond.declares y).before a0 Z = true) (w3 : (Cond.selects C y y).before a0 Z = true) (w4 : (Cond.instanceMethod y).before a0 Z = true) (w5 : (Cond.initialized y.cls).before a0 Z = true) (w6 : (Cond.code y bytes maxL ret).before a0 Z = true) (E : Exa Z h a C) (hy : y.cls ≠ "java/lang/invoke/MethodHandle" ∧ y.cls ≠ "java/lang/invoke/VarHandle") (hM : MetFree l y (head1 [Cond.code y bytes maxL ret] rm) (fun a U => a = as' ∧ Z.Warmed39 U.vm ∧ U.heap = h) (fun _ _ _ _ _ => True) (fun _ U o U' => ∃ v L, o = .returned v ∧ PQ h (some r) v U'.heap L ∧ FrameEnd U o U' L rm.cells rm.slots))
    (hf : rm.frames + 1 ≤ R.frames) (hl : W + (maxL + 11) + rm.locals ≤ R.locals) (eT : T.heap = h) {argsL rest : List Value} {sig : MethodDescriptor} (hsig : parseMethodDescriptor y.desc = some sig) (hlen : argsL.length = sig.parameters.length) (has : (Value.ref a :: argsL).toArray = as') (hst : st = argsL.reverse ++ .ref a :: rest) (hW : (rest.map fun v => v.category).sum ≤ W) (r1 : rm.cells = 0) (r2 : rm.slots = 0) (hc : cells ≤ R.cells) (hsl : slots ≤ R.slots) (hd : decode code pc = .ok (.invokevirtual k, 3)) (hpc : pc + 3 = pc')
    (K : ∀ T', Stand p l e R s m args below meth c T' locs cells slots → T'.heap = h → Go p e below s mc ms Q m T' pc' Ls (r :: rest)) : Go p e below s mc ms Q m T pc Ls st := by
  refine Go.callV X hx hby hZ hml hown w1 w2 w3 w4 w5 w6 E hy hM hf hl eT hsig hlen has hst hW (by rw [r1]; exact hc) (by rw [r2]; exact hsl) hd hpc (fun v T' L X' hQ => ?_)
  obtain ⟨rfl, rfl, e1⟩ := hQ
  rw [List.append_nil, r1, r2] at X'
  exact K T' X' e1
theorem Go.callC (X : Stand p l e R s m args below meth c T locs cells slots) (hx : p.tables.exec = Jvm.exec) (hby : c.code = code) (hZ : Z.Warmed39 s.vm) (hml : Ls.size = c.maxLocals) {own : String} {k : Nat} {y : MethodName} {bytes : ByteArray} {maxL : Nat} {rm : Room} {W : Nat} {as' : Array Value} {QY : Option Value → Heap → List Loc → Prop} (hown : s.vm.findClass own = some m.cls) (w1 : (Cond.methodLink own k y).before a0 Z = true) (w4 : (Cond.instanceMethod y).before a0 Z = true) (w5 : (Cond.initialized y.cls).before a0 Z = true) (w6 : (Cond.code y bytes maxL none).before a0 Z = true) (hy : y.cls ≠ "java/lang/invoke/MethodHandle" ∧ y.cls ≠ "java/lang/invoke/VarHandle") (hi : y.name = "<init>") (hM : MetFree l y (head1 [Cond.code y bytes maxL none] rm) (fun a U => a = as' ∧ Z.Warmed39 U.vm ∧ U.heap = h) (fun _ _ _ _ _ => True) (fun _ U o U' => ∃ v L, o = .returned v ∧ QY v U'.heap L ∧ FrameEnd U o U' L rm.cells rm.slots))
    (hf : rm.frames + 1 ≤ R.frames) (hl : W + (maxL + 11) + rm.locals ≤ R.locals) (eT : T.heap = h) {argsL rest : List Value} {sig : MethodDescriptor} (hsig : parseMethodDescriptor y.desc = some sig) (hlen : argsL.length = sig.parameters.length) (has : (Value.ref a :: argsL).toArray = as') (hst : st = argsL.reverse ++ .ref a :: rest) (hW : (rest.map fun v => v.category).sum ≤ W) (hc : cells + rm.cells ≤ R.cells) (hsl : slots + rm.slots ≤ R.slots) (hd : decode code pc = .ok (.invokespecial k, 3)) (hpc : pc + 3 = pc')
    (K : ∀ v T' L, Stand p l e R s m args below meth c T' (locs ++ L) (cells + rm.cells) (slots + rm.slots) → QY v T'.heap L → Go p e below s mc ms Q m T' pc' Ls (v.toList ++ rest)) : Go p e below s mc ms Q m T pc Ls st := by
  subst hpc hst has
  obtain ⟨v, vm₁, B, -, X', ⟨L, hQ, l1, l2, l3⟩, stp⟩ := X.specialBack hx hi hown (mvT hZ w1) (mvT hZ w4) (mvT hZ w6) hy (backOf (W := W) hM hZ w6 w5 hf hl) (g := mkF m pc Ls (argsL.reverse ++ .ref a :: rest)) rfl hml (Steps.refl _) (argsL := argsL) (rest := rest) (lenOf hsig hlen) rfl (by show 2 * 0 + _ ≤ _; omega) (hb hby hd) (fun _ _ => ⟨rfl, eT, hc, hsl⟩)
  rw [l1, l2, l3] at X'
  exact (K v B.U L X' hQ).of fun _ k => stp.trans k
end Heaps

-- body 1
def f1_0 (x0 : Int64) (x2 : Int32) : Option (Int32) := some (i2bF (i2bF ((((XT.ushrL x0 ((5 : Int32) * x2))).toInt32) &&& (127 : Int32))))
theorem d1_0 : decode method_2_code 0 = .ok (.lload_n 0, 1) := by decide +kernel
theorem d1_1 : decode method_2_code 1 = .ok (.iconst 5, 1) := by decide +kernel
theorem d1_2 : decode method_2_code 2 = .ok (.iload_n 2, 1) := by decide +kernel
theorem d1_3 : decode method_2_code 3 = .ok (.imul, 1) := by decide +kernel
theorem d1_4 : decode method_2_code 4 = .ok (.lushr, 1) := by decide +kernel
theorem d1_5 : decode method_2_code 5 = .ok (.l2i, 1) := by decide +kernel
theorem d1_6 : decode method_2_code 6 = .ok (.bipush 127, 2) := by decide +kernel
theorem d1_8 : decode method_2_code 8 = .ok (.iand, 1) := by decide +kernel
theorem d1_9 : decode method_2_code 9 = .ok (.i2b, 1) := by decide +kernel
theorem d1_10 : decode method_2_code 10 = .ok (.ireturn, 1) := by decide +kernel
abbrev Y1 : MethodName := ⟨"com/example/yarrow/yarrow/schema/SourceTextCodePointAtPinLaw", "ascii", "(JI)B"⟩
def RM1 : Room := { frames := 0, cells := 0, slots := 0, locals := 0 }
theorem pd_1 : parseMethodDescriptor Y1.desc = some ⟨[.long, .int], some .byte⟩ := by decide +kernel
theorem pn_1 : plainName "com/example/yarrow/yarrow/schema/SourceTextCodePointAtPinLaw" = true := by first | (simp [plainName, overriddenIn]; done) | decide +kernel
theorem ef_1 (m : MethodId) (x0 : Int64) (x2 : Int32) : entryFrame m #[.long x0, .int x2] 3 = mkF m 0 #[.val (.long x0), .second, .val (.int x2)] [] := by first | (simp [entryFrame, mkF, argsToLocals, Value.category]; done) | rfl
set_option maxRecDepth 65536 in
set_option maxHeartbeats 40000000 in
theorem rm1 (l : Launch) (Z : State) (a0 : Array Value) (hw : ∀ d ∈ tables_1, d.before a0 Z = true) (x0 : Int64) (x2 : Int32)  (h0 : Heap) (r : Int32) (hf : f1_0 x0 x2 = some r)  :
    MetFree l Y1 (head1 ([Jvm.Cond.code Y1 method_2_code 3 (some .byte)]) RM1) (fun a U => a = #[.long x0, .int x2] ∧ Z.Warmed39 U.vm ∧ U.heap = h0) (fun _ _ _ _ _ => True) (fun _ U o U' => ∃ v L, o = .returned v ∧ (PQ h0 (some (.int r))) v U'.heap L ∧ FrameEnd U o U' L RM1.cells RM1.slots) := by
  refine MetFree.of_bodySF (plainFor_of_name pn_1) hisR ?_
  intro p e s m args below meth c s₁ Bd hml0 hP hK
  obtain ⟨rfl, hZ, hh⟩ := hP
  have hx := Bd.exec
  have hby := Bd.bytes
  have hlk : meth.locks = false := BodyLoose.notSynchronized Bd
  have hret := Bd.returns
  have hml : c.maxLocals = 3 := hml0
  have hown : s.vm.findClass "com/example/yarrow/yarrow/schema/SourceTextCodePointAtPinLaw" = some m.cls := findClass_of_methodNamed Bd.named
  have X0 : Stand p l e RM1 s m #[.long x0, .int x2] below meth c s₁ [] 0 0 := Stand.of_body Bd
  have e0 : s₁.heap = h0 := by rw [← hh, Bd.state]; rfl
  suffices G : Go p e below s RM1.cells RM1.slots (PQ h0 (some (.int r))) m s₁ 0 #[.val (.long x0), .second, .val (.int x2)] [] by
    obtain ⟨s₂, o, h1, h2⟩ := G
    exact ⟨s₂, o, castTop (ef_1 m x0 x2) h1, h2⟩
  have hf0 := hf
  clear hf
  have hf := hf0
  unfold f1_0 at hf
  refine Go.lloadN X0 hx hby (v := x0) d1_0 rfl rfl ?_
  refine Go.iconst X0 hx hby (v := (5 : Int32)) d1_1 rfl rfl ?_
  refine Go.iloadN X0 hx hby (v := x2) d1_2 rfl rfl ?_
  refine Go.imul X0 hx hby d1_3 rfl ?_
  refine Go.lushr X0 hx hby d1_4 rfl ?_
  refine Go.l2i X0 hx hby d1_5 rfl ?_
  refine Go.bipush X0 hx hby (v := (127 : Int32)) d1_6 rfl rfl ?_
  refine Go.iand X0 hx hby d1_8 rfl ?_
  refine Go.i2b X0 hx hby d1_9 rfl ?_
  exact Go.iretN X0 hx hby hlk hret (Or.inr (Or.inl rfl)) (w' := (i2bF (i2bF ((((XT.ushrL x0 ((5 : Int32) * x2))).toInt32) &&& (127 : Int32))))) rfl d1_10 (by decide) (by decide) ⟨congrArg (fun z => some (Value.int z)) (Option.some.inj hf), rfl, e0⟩
-- body 2
def f2_0 (x1 : Int32) (G_bb : List Int32) : Option (Int32) := if inA G_bb x1 then if ((atA G_bb x1) &&& (255 : Int32)) < (128 : Int32) then some ((atA G_bb x1) &&& (255 : Int32)) else if ((atA G_bb x1) &&& (255 : Int32)) < (224 : Int32) then if inA G_bb (x1 + (1 : Int32)) then some ((shlI (((atA G_bb x1) &&& (255 : Int32)) &&& (31 : Int32)) (6 : Int32)) ||| ((atA G_bb (x1 + (1 : Int32))) &&& (63 : Int32))) else none else if ((atA G_bb x1) &&& (255 : Int32)) < (240 : Int32) then if inA G_bb (x1 + (1 : Int32)) then if inA G_bb (x1 + (2 : Int32)) then some (((shlI (((atA G_bb x1) &&& (255 : Int32)) &&& (15 : Int32)) (12 : Int32)) ||| (shlI ((atA G_bb (x1 + (1 : Int32))) &&& (63 : Int32)) (6 : Int32))) ||| ((atA G_bb (x1 + (2 : Int32))) &&& (63 : Int32))) else none else none else if inA G_bb (x1 + (1 : Int32)) then if inA G_bb (x1 + (2 : Int32)) then if inA G_bb (x1 + (3 : Int32)) then some ((((shlI (((atA G_bb x1) &&& (255 : Int32)) &&& (7 : Int32)) (18 : Int32)) ||| (shlI ((atA G_bb (x1 + (1 : Int32))) &&& (63 : Int32)) (12 : Int32))) ||| (shlI ((atA G_bb (x1 + (2 : Int32))) &&& (63 : Int32)) (6 : Int32))) ||| ((atA G_bb (x1 + (3 : Int32))) &&& (63 : Int32))) else none else none else none else none
theorem d2_0 : decode prog_120_method_9_code 0 = .ok (.aload_n 0, 1) := by decide +kernel
theorem d2_1 : decode prog_120_method_9_code 1 = .ok (.iload_n 1, 1) := by decide +kernel
theorem d2_2 : decode prog_120_method_9_code 2 = .ok (.baload, 1) := by decide +kernel
theorem d2_3 : decode prog_120_method_9_code 3 = .ok (.sipush 255, 3) := by decide +kernel
theorem d2_6 : decode prog_120_method_9_code 6 = .ok (.iand, 1) := by decide +kernel
theorem d2_7 : decode prog_120_method_9_code 7 = .ok (.istore_n 2, 1) := by decide +kernel
theorem d2_8 : decode prog_120_method_9_code 8 = .ok (.iload_n 2, 1) := by decide +kernel
theorem d2_9 : decode prog_120_method_9_code 9 = .ok (.sipush 128, 3) := by decide +kernel
theorem d2_12 : decode prog_120_method_9_code 12 = .ok (.if_icmp .ge 5, 3) := by decide +kernel
theorem d2_15 : decode prog_120_method_9_code 15 = .ok (.iload_n 2, 1) := by decide +kernel
theorem d2_16 : decode prog_120_method_9_code 16 = .ok (.ireturn, 1) := by decide +kernel
theorem d2_17 : decode prog_120_method_9_code 17 = .ok (.iload_n 2, 1) := by decide +kernel
theorem d2_18 : decode prog_120_method_9_code 18 = .ok (.sipush 224, 3) := by decide +kernel
theorem d2_21 : decode prog_120_method_9_code 21 = .ok (.if_icmp .ge 20, 3) := by decide +kernel
theorem d2_24 : decode prog_120_method_9_code 24 = .ok (.iload_n 2, 1) := by decide +kernel
theorem d2_25 : decode prog_120_method_9_code 25 = .ok (.bipush 31, 2) := by decide +kernel
theorem d2_27 : decode prog_120_method_9_code 27 = .ok (.iand, 1) := by decide +kernel
theorem d2_28 : decode prog_120_method_9_code 28 = .ok (.bipush 6, 2) := by decide +kernel
theorem d2_30 : decode prog_120_method_9_code 30 = .ok (.ishl, 1) := by decide +kernel
theorem d2_31 : decode prog_120_method_9_code 31 = .ok (.aload_n 0, 1) := by decide +kernel
theorem d2_32 : decode prog_120_method_9_code 32 = .ok (.iload_n 1, 1) := by decide +kernel
theorem d2_33 : decode prog_120_method_9_code 33 = .ok (.iconst 1, 1) := by decide +kernel
theorem d2_34 : decode prog_120_method_9_code 34 = .ok (.iadd, 1) := by decide +kernel
theorem d2_35 : decode prog_120_method_9_code 35 = .ok (.baload, 1) := by decide +kernel
theorem d2_36 : decode prog_120_method_9_code 36 = .ok (.bipush 63, 2) := by decide +kernel
theorem d2_38 : decode prog_120_method_9_code 38 = .ok (.iand, 1) := by decide +kernel
theorem d2_39 : decode prog_120_method_9_code 39 = .ok (.ior, 1) := by decide +kernel
theorem d2_40 : decode prog_120_method_9_code 40 = .ok (.ireturn, 1) := by decide +kernel
theorem d2_41 : decode prog_120_method_9_code 41 = .ok (.iload_n 2, 1) := by decide +kernel
theorem d2_42 : decode prog_120_method_9_code 42 = .ok (.sipush 240, 3) := by decide +kernel
theorem d2_45 : decode prog_120_method_9_code 45 = .ok (.if_icmp .ge 32, 3) := by decide +kernel
theorem d2_48 : decode prog_120_method_9_code 48 = .ok (.iload_n 2, 1) := by decide +kernel
theorem d2_49 : decode prog_120_method_9_code 49 = .ok (.bipush 15, 2) := by decide +kernel
theorem d2_51 : decode prog_120_method_9_code 51 = .ok (.iand, 1) := by decide +kernel
theorem d2_52 : decode prog_120_method_9_code 52 = .ok (.bipush 12, 2) := by decide +kernel
theorem d2_54 : decode prog_120_method_9_code 54 = .ok (.ishl, 1) := by decide +kernel
theorem d2_55 : decode prog_120_method_9_code 55 = .ok (.aload_n 0, 1) := by decide +kernel
theorem d2_56 : decode prog_120_method_9_code 56 = .ok (.iload_n 1, 1) := by decide +kernel
theorem d2_57 : decode prog_120_method_9_code 57 = .ok (.iconst 1, 1) := by decide +kernel
theorem d2_58 : decode prog_120_method_9_code 58 = .ok (.iadd, 1) := by decide +kernel
theorem d2_59 : decode prog_120_method_9_code 59 = .ok (.baload, 1) := by decide +kernel
theorem d2_60 : decode prog_120_method_9_code 60 = .ok (.bipush 63, 2) := by decide +kernel
theorem d2_62 : decode prog_120_method_9_code 62 = .ok (.iand, 1) := by decide +kernel
theorem d2_63 : decode prog_120_method_9_code 63 = .ok (.bipush 6, 2) := by decide +kernel
theorem d2_65 : decode prog_120_method_9_code 65 = .ok (.ishl, 1) := by decide +kernel
theorem d2_66 : decode prog_120_method_9_code 66 = .ok (.ior, 1) := by decide +kernel
theorem d2_67 : decode prog_120_method_9_code 67 = .ok (.aload_n 0, 1) := by decide +kernel
theorem d2_68 : decode prog_120_method_9_code 68 = .ok (.iload_n 1, 1) := by decide +kernel
theorem d2_69 : decode prog_120_method_9_code 69 = .ok (.iconst 2, 1) := by decide +kernel
theorem d2_70 : decode prog_120_method_9_code 70 = .ok (.iadd, 1) := by decide +kernel
theorem d2_71 : decode prog_120_method_9_code 71 = .ok (.baload, 1) := by decide +kernel
theorem d2_72 : decode prog_120_method_9_code 72 = .ok (.bipush 63, 2) := by decide +kernel
theorem d2_74 : decode prog_120_method_9_code 74 = .ok (.iand, 1) := by decide +kernel
theorem d2_75 : decode prog_120_method_9_code 75 = .ok (.ior, 1) := by decide +kernel
theorem d2_76 : decode prog_120_method_9_code 76 = .ok (.ireturn, 1) := by decide +kernel
theorem d2_77 : decode prog_120_method_9_code 77 = .ok (.iload_n 2, 1) := by decide +kernel
theorem d2_78 : decode prog_120_method_9_code 78 = .ok (.bipush 7, 2) := by decide +kernel
theorem d2_80 : decode prog_120_method_9_code 80 = .ok (.iand, 1) := by decide +kernel
theorem d2_81 : decode prog_120_method_9_code 81 = .ok (.bipush 18, 2) := by decide +kernel
theorem d2_83 : decode prog_120_method_9_code 83 = .ok (.ishl, 1) := by decide +kernel
theorem d2_84 : decode prog_120_method_9_code 84 = .ok (.aload_n 0, 1) := by decide +kernel
theorem d2_85 : decode prog_120_method_9_code 85 = .ok (.iload_n 1, 1) := by decide +kernel
theorem d2_86 : decode prog_120_method_9_code 86 = .ok (.iconst 1, 1) := by decide +kernel
theorem d2_87 : decode prog_120_method_9_code 87 = .ok (.iadd, 1) := by decide +kernel
theorem d2_88 : decode prog_120_method_9_code 88 = .ok (.baload, 1) := by decide +kernel
theorem d2_89 : decode prog_120_method_9_code 89 = .ok (.bipush 63, 2) := by decide +kernel
theorem d2_91 : decode prog_120_method_9_code 91 = .ok (.iand, 1) := by decide +kernel
theorem d2_92 : decode prog_120_method_9_code 92 = .ok (.bipush 12, 2) := by decide +kernel
theorem d2_94 : decode prog_120_method_9_code 94 = .ok (.ishl, 1) := by decide +kernel
theorem d2_95 : decode prog_120_method_9_code 95 = .ok (.ior, 1) := by decide +kernel
theorem d2_96 : decode prog_120_method_9_code 96 = .ok (.aload_n 0, 1) := by decide +kernel
theorem d2_97 : decode prog_120_method_9_code 97 = .ok (.iload_n 1, 1) := by decide +kernel
theorem d2_98 : decode prog_120_method_9_code 98 = .ok (.iconst 2, 1) := by decide +kernel
theorem d2_99 : decode prog_120_method_9_code 99 = .ok (.iadd, 1) := by decide +kernel
theorem d2_100 : decode prog_120_method_9_code 100 = .ok (.baload, 1) := by decide +kernel
theorem d2_101 : decode prog_120_method_9_code 101 = .ok (.bipush 63, 2) := by decide +kernel
theorem d2_103 : decode prog_120_method_9_code 103 = .ok (.iand, 1) := by decide +kernel
theorem d2_104 : decode prog_120_method_9_code 104 = .ok (.bipush 6, 2) := by decide +kernel
theorem d2_106 : decode prog_120_method_9_code 106 = .ok (.ishl, 1) := by decide +kernel
theorem d2_107 : decode prog_120_method_9_code 107 = .ok (.ior, 1) := by decide +kernel
theorem d2_108 : decode prog_120_method_9_code 108 = .ok (.aload_n 0, 1) := by decide +kernel
theorem d2_109 : decode prog_120_method_9_code 109 = .ok (.iload_n 1, 1) := by decide +kernel
theorem d2_110 : decode prog_120_method_9_code 110 = .ok (.iconst 3, 1) := by decide +kernel
theorem d2_111 : decode prog_120_method_9_code 111 = .ok (.iadd, 1) := by decide +kernel
theorem d2_112 : decode prog_120_method_9_code 112 = .ok (.baload, 1) := by decide +kernel
theorem d2_113 : decode prog_120_method_9_code 113 = .ok (.bipush 63, 2) := by decide +kernel
theorem d2_115 : decode prog_120_method_9_code 115 = .ok (.iand, 1) := by decide +kernel
theorem d2_116 : decode prog_120_method_9_code 116 = .ok (.ior, 1) := by decide +kernel
theorem d2_117 : decode prog_120_method_9_code 117 = .ok (.ireturn, 1) := by decide +kernel
abbrev Y2 : MethodName := ⟨"com/example/yarrow/yarrow/schema/SourceText", "codePointAt", "([BI)I"⟩
def RM2 : Room := { frames := 0, cells := 0, slots := 0, locals := 0 }
theorem pd_2 : parseMethodDescriptor Y2.desc = some ⟨[(.array .byte), .int], some .int⟩ := by decide +kernel
theorem pn_2 : plainName "com/example/yarrow/yarrow/schema/SourceText" = true := by first | (simp [plainName, overriddenIn]; done) | decide +kernel
theorem ef_2 (m : MethodId) (bb : Addr) (x1 : Int32) : entryFrame m #[.ref bb, .int x1] 3 = mkF m 0 #[.val (.ref bb), .val (.int x1), .unset] [] := by first | (simp [entryFrame, mkF, argsToLocals, Value.category]; done) | rfl
set_option maxRecDepth 65536 in
set_option maxHeartbeats 40000000 in
theorem rm2 (l : Launch) (Z : State) (a0 : Array Value) (hw : ∀ d ∈ tables_1, d.before a0 Z = true) (bb : Addr) (x1 : Int32) (G_bb : List Int32) (h0 : Heap) (r : Int32) (hf : f2_0 x1 G_bb = some r) (F_bb : AryI Z h0 bb .byte G_bb) :
    MetFree l Y2 (head1 ([Jvm.Cond.code Y2 prog_120_method_9_code 3 (some .int)]) RM2) (fun a U => a = #[.ref bb, .int x1] ∧ Z.Warmed39 U.vm ∧ U.heap = h0) (fun _ _ _ _ _ => True) (fun _ U o U' => ∃ v L, o = .returned v ∧ (PQ h0 (some (.int r))) v U'.heap L ∧ FrameEnd U o U' L RM2.cells RM2.slots) := by
  refine MetFree.of_bodySF (plainFor_of_name pn_2) hisR ?_
  intro p e s m args below meth c s₁ Bd hml0 hP hK
  obtain ⟨rfl, hZ, hh⟩ := hP
  have hx := Bd.exec
  have hby := Bd.bytes
  have hlk : meth.locks = false := BodyLoose.notSynchronized Bd
  have hret := Bd.returns
  have hml : c.maxLocals = 3 := hml0
  have hown : s.vm.findClass "com/example/yarrow/yarrow/schema/SourceText" = some m.cls := findClass_of_methodNamed Bd.named
  have X0 : Stand p l e RM2 s m #[.ref bb, .int x1] below meth c s₁ [] 0 0 := Stand.of_body Bd
  have e0 : s₁.heap = h0 := by rw [← hh, Bd.state]; rfl
  suffices G : Go p e below s RM2.cells RM2.slots (PQ h0 (some (.int r))) m s₁ 0 #[.val (.ref bb), .val (.int x1), .unset] [] by
    obtain ⟨s₂, o, h1, h2⟩ := G
    exact ⟨s₂, o, castTop (ef_2 m bb x1) h1, h2⟩
  have hf0 := hf
  clear hf
  have hf := hf0
  unfold f2_0 at hf
  refine Go.aloadN X0 hx hby (v := .ref bb) d2_0 rfl rfl rfl ?_
  refine Go.iloadN X0 hx hby (v := x1) d2_1 rfl rfl ?_
  rcases Decidable.em (inA G_bb x1) with hj11 | hj11
  case inr => exact absurd ((if_neg hj11).symm.trans hf) nofun
  replace hf := (if_pos hj11).symm.trans hf
  refine Go.baload X0 hx hby hZ e0 F_bb hj11 d2_2 rfl ?_
  refine Go.sipush X0 hx hby (v := (255 : Int32)) d2_3 rfl rfl ?_
  refine Go.iand X0 hx hby d2_6 rfl ?_
  refine Go.istoreN X0 hx hby (Ls' := #[.val (.ref bb), .val (.int x1), .val (.int ((atA G_bb x1) &&& (255 : Int32)))]) d2_7 rfl rfl ?_
  refine Go.iloadN X0 hx hby (v := ((atA G_bb x1) &&& (255 : Int32))) d2_8 rfl rfl ?_
  refine Go.sipush X0 hx hby (v := (128 : Int32)) d2_9 rfl rfl ?_
  refine Go.icmp_ge X0 hx hby (pc' := 17) d2_12 (by decide) (by decide) rfl (fun hc12 => ?_) (fun hc12 => ?_)
  · replace hf := (if_neg hc12).symm.trans hf
    refine Go.iloadN X0 hx hby (v := ((atA G_bb x1) &&& (255 : Int32))) d2_17 rfl rfl ?_
    refine Go.sipush X0 hx hby (v := (224 : Int32)) d2_18 rfl rfl ?_
    refine Go.icmp_ge X0 hx hby (pc' := 41) d2_21 (by decide) (by decide) rfl (fun hc13 => ?_) (fun hc13 => ?_)
    · replace hf := (if_neg hc13).symm.trans hf
      refine Go.iloadN X0 hx hby (v := ((atA G_bb x1) &&& (255 : Int32))) d2_41 rfl rfl ?_
      refine Go.sipush X0 hx hby (v := (240 : Int32)) d2_42 rfl rfl ?_
      refine Go.icmp_ge X0 hx hby (pc' := 77) d2_45 (by decide) (by decide) rfl (fun hc14 => ?_) (fun hc14 => ?_)
      · replace hf := (if_neg hc14).symm.trans hf
        refine Go.iloadN X0 hx hby (v := ((atA G_bb x1) &&& (255 : Int32))) d2_77 rfl rfl ?_
        refine Go.bipush X0 hx hby (v := (7 : Int32)) d2_78 rfl rfl ?_
        refine Go.iand X0 hx hby d2_80 rfl ?_
        refine Go.bipush X0 hx hby (v := (18 : Int32)) d2_81 rfl rfl ?_
        refine Go.ishl X0 hx hby d2_83 rfl ?_
        refine Go.aloadN X0 hx hby (v := .ref bb) d2_84 rfl rfl rfl ?_
        refine Go.iloadN X0 hx hby (v := x1) d2_85 rfl rfl ?_
        refine Go.iconst X0 hx hby (v := (1 : Int32)) d2_86 rfl rfl ?_
        refine Go.iadd X0 hx hby d2_87 rfl ?_
        rcases Decidable.em (inA G_bb (x1 + (1 : Int32))) with hj15 | hj15
        case inr => exact absurd ((if_neg hj15).symm.trans hf) nofun
        replace hf := (if_pos hj15).symm.trans hf
        refine Go.baload X0 hx hby hZ e0 F_bb hj15 d2_88 rfl ?_
        refine Go.bipush X0 hx hby (v := (63 : Int32)) d2_89 rfl rfl ?_
        refine Go.iand X0 hx hby d2_91 rfl ?_
        refine Go.bipush X0 hx hby (v := (12 : Int32)) d2_92 rfl rfl ?_
        refine Go.ishl X0 hx hby d2_94 rfl ?_
        refine Go.ior X0 hx hby d2_95 rfl ?_
        refine Go.aloadN X0 hx hby (v := .ref bb) d2_96 rfl rfl rfl ?_
        refine Go.iloadN X0 hx hby (v := x1) d2_97 rfl rfl ?_
        refine Go.iconst X0 hx hby (v := (2 : Int32)) d2_98 rfl rfl ?_
        refine Go.iadd X0 hx hby d2_99 rfl ?_
        rcases Decidable.em (inA G_bb (x1 + (2 : Int32))) with hj16 | hj16
        case inr => exact absurd ((if_neg hj16).symm.trans hf) nofun
        replace hf := (if_pos hj16).symm.trans hf
        refine Go.baload X0 hx hby hZ e0 F_bb hj16 d2_100 rfl ?_
        refine Go.bipush X0 hx hby (v := (63 : Int32)) d2_101 rfl rfl ?_
        refine Go.iand X0 hx hby d2_103 rfl ?_
        refine Go.bipush X0 hx hby (v := (6 : Int32)) d2_104 rfl rfl ?_
        refine Go.ishl X0 hx hby d2_106 rfl ?_
        refine Go.ior X0 hx hby d2_107 rfl ?_
        refine Go.aloadN X0 hx hby (v := .ref bb) d2_108 rfl rfl rfl ?_
        refine Go.iloadN X0 hx hby (v := x1) d2_109 rfl rfl ?_
        refine Go.iconst X0 hx hby (v := (3 : Int32)) d2_110 rfl rfl ?_
        refine Go.iadd X0 hx hby d2_111 rfl ?_
        rcases Decidable.em (inA G_bb (x1 + (3 : Int32))) with hj17 | hj17
        case inr => exact absurd ((if_neg hj17).symm.trans hf) nofun
        replace hf := (if_pos hj17).symm.trans hf
        refine Go.baload X0 hx hby hZ e0 F_bb hj17 d2_112 rfl ?_
        refine Go.bipush X0 hx hby (v := (63 : Int32)) d2_113 rfl rfl ?_
        refine Go.iand X0 hx hby d2_115 rfl ?_
        refine Go.ior X0 hx hby d2_116 rfl ?_
        exact Go.iretI X0 hx hby hlk hret d2_117 (by decide) (by decide) ⟨congrArg (fun z => some (Value.int z)) (Option.some.inj hf), rfl, e0⟩
      · replace hf := (if_pos hc14).symm.trans hf
        refine Go.iloadN X0 hx hby (v := ((atA G_bb x1) &&& (255 : Int32))) d2_48 rfl rfl ?_
        refine Go.bipush X0 hx hby (v := (15 : Int32)) d2_49 rfl rfl ?_
        refine Go.iand X0 hx hby d2_51 rfl ?_
        refine Go.bipush X0 hx hby (v := (12 : Int32)) d2_52 rfl rfl ?_
        refine Go.ishl X0 hx hby d2_54 rfl ?_
        refine Go.aloadN X0 hx hby (v := .ref bb) d2_55 rfl rfl rfl ?_
        refine Go.iloadN X0 hx hby (v := x1) d2_56 rfl rfl ?_
        refine Go.iconst X0 hx hby (v := (1 : Int32)) d2_57 rfl rfl ?_
        refine Go.iadd X0 hx hby d2_58 rfl ?_
        rcases Decidable.em (inA G_bb (x1 + (1 : Int32))) with hj18 | hj18
        case inr => exact absurd ((if_neg hj18).symm.trans hf) nofun
        replace hf := (if_pos hj18).symm.trans hf
        refine Go.baload X0 hx hby hZ e0 F_bb hj18 d2_59 rfl ?_
        refine Go.bipush X0 hx hby (v := (63 : Int32)) d2_60 rfl rfl ?_
        refine Go.iand X0 hx hby d2_62 rfl ?_
        refine Go.bipush X0 hx hby (v := (6 : Int32)) d2_63 rfl rfl ?_
        refine Go.ishl X0 hx hby d2_65 rfl ?_
        refine Go.ior X0 hx hby d2_66 rfl ?_
        refine Go.aloadN X0 hx hby (v := .ref bb) d2_67 rfl rfl rfl ?_
        refine Go.iloadN X0 hx hby (v := x1) d2_68 rfl rfl ?_
        refine Go.iconst X0 hx hby (v := (2 : Int32)) d2_69 rfl rfl ?_
        refine Go.iadd X0 hx hby d2_70 rfl ?_
        rcases Decidable.em (inA G_bb (x1 + (2 : Int32))) with hj19 | hj19
        case inr => exact absurd ((if_neg hj19).symm.trans hf) nofun
        replace hf := (if_pos hj19).symm.trans hf
        refine Go.baload X0 hx hby hZ e0 F_bb hj19 d2_71 rfl ?_
        refine Go.bipush X0 hx hby (v := (63 : Int32)) d2_72 rfl rfl ?_
        refine Go.iand X0 hx hby d2_74 rfl ?_
        refine Go.ior X0 hx hby d2_75 rfl ?_
        exact Go.iretI X0 hx hby hlk hret d2_76 (by decide) (by decide) ⟨congrArg (fun z => some (Value.int z)) (Option.some.inj hf), rfl, e0⟩
    · replace hf := (if_pos hc13).symm.trans hf
      refine Go.iloadN X0 hx hby (v := ((atA G_bb x1) &&& (255 : Int32))) d2_24 rfl rfl ?_
      refine Go.bipush X0 hx hby (v := (31 : Int32)) d2_25 rfl rfl ?_
      refine Go.iand X0 hx hby d2_27 rfl ?_
      refine Go.bipush X0 hx hby (v := (6 : Int32)) d2_28 rfl rfl ?_
      refine Go.ishl X0 hx hby d2_30 rfl ?_
      refine Go.aloadN X0 hx hby (v := .ref bb) d2_31 rfl rfl rfl ?_
      refine Go.iloadN X0 hx hby (v := x1) d2_32 rfl rfl ?_
      refine Go.iconst X0 hx hby (v := (1 : Int32)) d2_33 rfl rfl ?_
      refine Go.iadd X0 hx hby d2_34 rfl ?_
      rcases Decidable.em (inA G_bb (x1 + (1 : Int32))) with hj20 | hj20
      case inr => exact absurd ((if_neg hj20).symm.trans hf) nofun
      replace hf := (if_pos hj20).symm.trans hf
      refine Go.baload X0 hx hby hZ e0 F_bb hj20 d2_35 rfl ?_
      refine Go.bipush X0 hx hby (v := (63 : Int32)) d2_36 rfl rfl ?_
      refine Go.iand X0 hx hby d2_38 rfl ?_
      refine Go.ior X0 hx hby d2_39 rfl ?_
      exact Go.iretI X0 hx hby hlk hret d2_40 (by decide) (by decide) ⟨congrArg (fun z => some (Value.int z)) (Option.some.inj hf), rfl, e0⟩
  · replace hf := (if_pos hc12).symm.trans hf
    refine Go.iloadN X0 hx hby (v := ((atA G_bb x1) &&& (255 : Int32))) d2_15 rfl rfl ?_
    exact Go.iretI X0 hx hby hlk hret d2_16 (by decide) (by decide) ⟨congrArg (fun z => some (Value.int z)) (Option.some.inj hf), rfl, e0⟩
-- body 0
def f0_419 (x7 : Int32) (x9 : Int32) (G_bb : List Int32) : Option (Int32) := (f2_0 x9 G_bb).bind fun r21 => if r21 = x7 then some (1 : Int32) else some (0 : Int32)
def f0_229 (x5 : Int32) (x7 : Int32) (x9 : Int32) (G_bb : List Int32) : Option (Int32) := if x5 = 0 then if inA G_bb x9 then f0_419 x7 x9 (setA G_bb x9 (i2bF (i2bF x7))) else none else if x5 = (1 : Int32) then if inA G_bb x9 then if inA (setA G_bb x9 (i2bF (i2bF ((192 : Int32) ||| (shrI x7 (6 : Int32)))))) (x9 + (1 : Int32)) then f0_419 x7 x9 (setA (setA G_bb x9 (i2bF (i2bF ((192 : Int32) ||| (shrI x7 (6 : Int32)))))) (x9 + (1 : Int32)) (i2bF (i2bF ((128 : Int32) ||| (x7 &&& (63 : Int32)))))) else none else none else if x5 = (2 : Int32) then if inA G_bb x9 then if inA (setA G_bb x9 (i2bF (i2bF ((224 : Int32) ||| (shrI x7 (12 : Int32)))))) (x9 + (1 : Int32)) then if inA (setA (setA G_bb x9 (i2bF (i2bF ((224 : Int32) ||| (shrI x7 (12 : Int32)))))) (x9 + (1 : Int32)) (i2bF (i2bF ((128 : Int32) ||| ((shrI x7 (6 : Int32)) &&& (63 : Int32)))))) (x9 + (2 : Int32)) then f0_419 x7 x9 (setA (setA (setA G_bb x9 (i2bF (i2bF ((224 : Int32) ||| (shrI x7 (12 : Int32)))))) (x9 + (1 : Int32)) (i2bF (i2bF ((128 : Int32) ||| ((shrI x7 (6 : Int32)) &&& (63 : Int32)))))) (x9 + (2 : Int32)) (i2bF (i2bF ((128 : Int32) ||| (x7 &&& (63 : Int32)))))) else none else none else none else if inA G_bb x9 then if inA (setA G_bb x9 (i2bF (i2bF ((240 : Int32) ||| (shrI x7 (18 : Int32)))))) (x9 + (1 : Int32)) then if inA (setA (setA G_bb x9 (i2bF (i2bF ((240 : Int32) ||| (shrI x7 (18 : Int32)))))) (x9 + (1 : Int32)) (i2bF (i2bF ((128 : Int32) ||| ((shrI x7 (12 : Int32)) &&& (63 : Int32)))))) (x9 + (2 : Int32)) then if inA (setA (setA (setA G_bb x9 (i2bF (i2bF ((240 : Int32) ||| (shrI x7 (18 : Int32)))))) (x9 + (1 : Int32)) (i2bF (i2bF ((128 : Int32) ||| ((shrI x7 (12 : Int32)) &&& (63 : Int32)))))) (x9 + (2 : Int32)) (i2bF (i2bF ((128 : Int32) ||| ((shrI x7 (6 : Int32)) &&& (63 : Int32)))))) (x9 + (3 : Int32)) then f0_419 x7 x9 (setA (setA (setA (setA G_bb x9 (i2bF (i2bF ((240 : Int32) ||| (shrI x7 (18 : Int32)))))) (x9 + (1 : Int32)) (i2bF (i2bF ((128 : Int32) ||| ((shrI x7 (12 : Int32)) &&& (63 : Int32)))))) (x9 + (2 : Int32)) (i2bF (i2bF ((128 : Int32) ||| ((shrI x7 (6 : Int32)) &&& (63 : Int32)))))) (x9 + (3 : Int32)) (i2bF (i2bF ((128 : Int32) ||| (x7 &&& (63 : Int32)))))) else none else none else none else none
def f0_98 (x2 : Int32) (x3 : Int64) (x5 : Int32) (x7 : Int32) : Option (Int32) := (f1_0 x3 (0 : Int32)).bind fun r47 => (f1_0 x3 (1 : Int32)).bind fun r50 => (f1_0 x3 (2 : Int32)).bind fun r53 => (f1_0 x3 (3 : Int32)).bind fun r56 => (f1_0 x3 (4 : Int32)).bind fun r59 => (f1_0 x3 (5 : Int32)).bind fun r62 => (f1_0 x3 (6 : Int32)).bind fun r65 => (f1_0 x3 (7 : Int32)).bind fun r68 => (f1_0 x3 (8 : Int32)).bind fun r71 => (f1_0 x3 (9 : Int32)).bind fun r74 => (f1_0 x3 (10 : Int32)).bind fun r77 => (f1_0 x3 (11 : Int32)).bind fun r80 => f0_229 x5 x7 (x2 &&& (3 : Int32)) ([(i2bF r47), (i2bF r50), (i2bF r53), (i2bF r56), (i2bF r59), (i2bF r62), (i2bF r65), (i2bF r68), (i2bF r71), (i2bF r74), (i2bF r77), (i2bF r80)] : List Int32)
def f0_83 (x2 : Int32) (x3 : Int64) (x5 : Int32) (t0 : Int32) : Option (Int32) := f0_98 x2 x3 x5 t0
def f0_0 (x0 : Int32) (x1 : Int32) (x2 : Int32) (x3 : Int64) : Option (Int32) := if (x0 &&& (3 : Int32)) = 0 then f0_98 x2 x3 (x0 &&& (3 : Int32)) (remI (x1 &&& (2147483647 : Int32)) (128 : Int32)) else if (x0 &&& (3 : Int32)) = (1 : Int32) then f0_98 x2 x3 (x0 &&& (3 : Int32)) ((128 : Int32) + (remI (x1 &&& (2147483647 : Int32)) (1920 : Int32))) else if (x0 &&& (3 : Int32)) = (2 : Int32) then if (remI (x1 &&& (2147483647 : Int32)) (61440 : Int32)) < (53248 : Int32) then f0_83 x2 x3 (x0 &&& (3 : Int32)) ((2048 : Int32) + (remI (x1 &&& (2147483647 : Int32)) (61440 : Int32))) else f0_83 x2 x3 (x0 &&& (3 : Int32)) ((4096 : Int32) + (remI (x1 &&& (2147483647 : Int32)) (61440 : Int32))) else f0_98 x2 x3 (x0 &&& (3 : Int32)) ((65536 : Int32) + (remI (x1 &&& (2147483647 : Int32)) (1048576 : Int32)))
theorem pn_0 : plainName "com/example/yarrow/yarrow/schema/SourceTextCodePointAtPinLaw" = true := by first | (simp [plainName, overriddenIn]; done) | decide +kernel
theorem ef_0 (m : MethodId) (x0 : Int32) (x1 : Int32) (x2 : Int32) (x3 : Int64) : entryFrame m #[.int x0, .int x1, .int x2, .long x3] maxLocals = mkF m 0 #[.val (.int x0), .val (.int x1), .val (.int x2), .val (.long x3), .second, .unset, .unset, .unset, .unset, .unset] [] := by first | (simp [entryFrame, mkF, argsToLocals, Value.category, maxLocals]; done) | rfl
set_option maxRecDepth 65536 in
set_option maxHeartbeats 40000000 in
theorem rm0 (l : Launch) (Z : State) (a0 : Array Value) (hw : ∀ d ∈ tables_1, d.before a0 Z = true) (ws : List Jvm.Cond) (x0 : Int32) (x1 : Int32) (x2 : Int32) (x3 : Int64)  (h0 : Heap) (n0 : Nat) (Z0 : n0 ≤ h0.size) (r : Int32) (hf : f0_0 x0 x1 x2 x3 = some r)  :
    MetFree l x (head1 (Jvm.Cond.code x code maxLocals ret :: ws) room_1) (fun a U => a = #[.int x0, .int x1, .int x2, .long x3] ∧ Z.Warmed39 U.vm ∧ U.heap = h0) (fun _ _ _ _ _ => True) (fun _ U o U' => ∃ v L, o = .returned v ∧ (fun v h L => v = some (.int r) ∧ Fr n0 L) v U'.heap L ∧ FrameEnd U o U' L room_1.cells room_1.slots) := by
  refine MetFree.of_bodySF (plainFor_of_name pn_0) hisR ?_
  intro p e s m args below meth c s₁ Bd hml0 hP hK
  obtain ⟨rfl, hZ, hh⟩ := hP
  have hx := Bd.exec
  have hby := Bd.bytes
  have hlk : meth.locks = false := BodyLoose.notSynchronized Bd
  have hret := Bd.returns
  have hml : c.maxLocals = 10 := hml0
  have hown : s.vm.findClass "com/example/yarrow/yarrow/schema/SourceTextCodePointAtPinLaw" = some m.cls := findClass_of_methodNamed Bd.named
  have X0 : Stand p l e room_1 s m #[.int x0, .int x1, .int x2, .long x3] below meth c s₁ [] 0 0 := Stand.of_body Bd
  have e0 : s₁.heap = h0 := by rw [← hh, Bd.state]; rfl
  have N0 := Fr.nil n0
  have K0 := Keep.refl h0 []
  suffices G : Go p e below s room_1.cells room_1.slots (fun v h L => v = some (.int r) ∧ Fr n0 L) m s₁ 0 #[.val (.int x0), .val (.int x1), .val (.int x2), .val (.long x3), .second, .unset, .unset, .unset, .unset, .unset] [] by
    obtain ⟨s₂, o, h1, h2⟩ := G
    exact ⟨s₂, o, castTop (ef_0 m x0 x1 x2 x3) h1, h2⟩
  have hf0 := hf
  clear hf
  have B419 : ∀ (T : State) (h : Heap) (locs : List Loc), Stand p l e room_1 s m #[.int x0, .int x1, .int x2, .long x3] below meth c T locs 1 12 → T.heap = h → Fr n0 locs → Keep h0 h [] → ∀ (bb : Addr), h0.size ≤ bb → ∀ (G_bb : List Int32), AryI Z h bb .byte G_bb → ∀ (x0 : Int32) (x1 : Int32) (x2 : Int32) (x3 : Int64) (x5 : Int32) (x6 : Int32) (x7 : Int32) (x9 : Int32), f0_419 x7 x9 G_bb = some r → Go p e below s room_1.cells room_1.slots (fun v h L => v = some (.int r) ∧ Fr n0 L) m T 419 #[.val (.int x0), .val (.int x1), .val (.int x2), .val (.long x3), .second, .val (.int x5), .val (.int x6), .val (.int x7), .val (.ref bb), .val (.int x9)] [] := by
    intro T87 h87 _ X87 e87 N87 K87 bb na_bb G_bb F87_bb x0 x1 x2 x3 x5 x6 x7 x9 hf
    unfold f0_419 at hf
    refine Go.aload X87 hx hby (v := .ref bb) at_419 rfl rfl rfl ?_
    refine Go.iload X87 hx hby (v := x9) at_421 rfl rfl ?_
    obtain ⟨r88, g88, hf⟩ := Option.bind_eq_some_iff.mp hf
    refine Go.callSP X87 hx hby hZ (by rw [hml]; rfl) (W := 0) (argsL := [.ref bb, .int x9]) (rest := []) hown (hw _ (List.mem_of_getElem? (i := 6) rfl)) (hw _ (List.mem_of_getElem? (i := 7) rfl)) (hw _ (List.mem_of_getElem? (i := 8) rfl)) (hw _ (List.mem_of_getElem? (i := 9) rfl)) (by decide) (rm2 l Z a0 hw bb x9 G_bb h87 r88 g88 F87_bb) (by decide) (by decide) e87 pd_2 rfl rfl rfl (Nat.le_of_eq rfl) rfl rfl (by decide) (by decide) at_423 rfl (fun T88 X88 e88 => ?_)
    refine Go.iload X88 hx hby (v := x7) at_426 rfl rfl ?_
    refine Go.icmp_ne X88 hx hby (pc' := 435) at_428 (by decide) (by decide) rfl (fun hc89 => ?_) (fun hc89 => ?_)
    · replace hf := (if_neg hc89).symm.trans hf
      refine Go.iconst X88 hx hby (v := (0 : Int32)) at_435 rfl rfl ?_
      exact Go.iretN X88 hx hby hlk hret (Or.inl rfl) (w' := (0 : Int32)) rfl at_436 (by decide) (by decide) ⟨congrArg (fun z => some (Value.int z)) (Option.some.inj hf), N87⟩
    · replace hf := (if_pos hc89).symm.trans hf
      refine Go.iconst X88 hx hby (v := (1 : Int32)) at_431 rfl rfl ?_
      refine Go.goto X88 hx hby (pc' := 436) at_432 (by decide) (by decide) ?_
      exact Go.iretN X88 hx hby hlk hret (Or.inl rfl) (w' := (1 : Int32)) rfl at_436 (by decide) (by decide) ⟨congrArg (fun z => some (Value.int z)) (Option.some.inj hf), N87⟩
  have B229 : ∀ (T : State) (h : Heap) (locs : List Loc), Stand p l e room_1 s m #[.int x0, .int x1, .int x2, .long x3] below meth c T locs 1 12 → T.heap = h → Fr n0 locs → Keep h0 h [] → ∀ (bb : Addr), h0.size ≤ bb → ∀ (G_bb : List Int32), AryI Z h bb .byte G_bb → ∀ (x0 : Int32) (x1 : Int32) (x2 : Int32) (x3 : Int64) (x5 : Int32) (x6 : Int32) (x7 : Int32) (x9 : Int32), f0_229 x5 x7 x9 G_bb = some r → Go p e below s room_1.cells room_1.slots (fun v h L => v = some (.int r) ∧ Fr n0 L) m T 229 #[.val (.int x0), .val (.int x1), .val (.int x2), .val (.long x3), .second, .val (.int x5), .val (.int x6), .val (.int x7), .val (.ref bb), .val (.int x9)] [] := by
    intro T90 h90 _ X90 e90 N90 K90 bb na_bb G_bb F90_bb x0 x1 x2 x3 x5 x6 x7 x9 hf
    unfold f0_229 at hf
    refine Go.iload X90 hx hby (v := x5) at_229 rfl rfl ?_
    refine Go.if_ne X90 hx hby (pc' := 245) at_231 (by decide) (by decide) rfl (fun hc91 => ?_) (fun hc91 => ?_)
    · replace hf := (if_neg hc91).symm.trans hf
      refine Go.iload X90 hx hby (v := x5) at_245 rfl rfl ?_
      refine Go.iconst X90 hx hby (v := (1 : Int32)) at_247 rfl rfl ?_
      refine Go.icmp_ne X90 hx hby (pc' := 286) at_248 (by decide) (by decide) rfl (fun hc92 => ?_) (fun hc92 => ?_)
      · replace hf := (if_neg hc92).symm.trans hf
        refine Go.iload X90 hx hby (v := x5) at_286 rfl rfl ?_
        refine Go.iconst X90 hx hby (v := (2 : Int32)) at_288 rfl rfl ?_
        refine Go.icmp_ne X90 hx hby (pc' := 347) at_289 (by decide) (by decide) rfl (fun hc93 => ?_) (fun hc93 => ?_)
        · replace hf := (if_neg hc93).symm.trans hf
          refine Go.aload X90 hx hby (v := .ref bb) at_347 rfl rfl rfl ?_
          refine Go.iload X90 hx hby (v := x9) at_349 rfl rfl ?_
          refine Go.sipush X90 hx hby (v := (240 : Int32)) at_351 rfl rfl ?_
          refine Go.iload X90 hx hby (v := x7) at_354 rfl rfl ?_
          refine Go.bipush X90 hx hby (v := (18 : Int32)) at_356 rfl rfl ?_
          refine Go.ishr X90 hx hby at_358 rfl ?_
          refine Go.ior X90 hx hby at_359 rfl ?_
          refine Go.i2b X90 hx hby at_360 rfl ?_
          rcases Decidable.em (inA G_bb x9) with hj94 | hj94
          case inr => exact absurd ((if_neg hj94).symm.trans hf) nofun
          replace hf := (if_pos hj94).symm.trans hf
          refine Go.bastore X90 hx hby hZ e90 F90_bb hj94 at_361 rfl (fun T95 h95 X95 e95 W95 A95 => ?_)
          have N95 := Fr.snoc X95 N90 (Nat.le_trans Z0 na_bb)
          have K95 := Keep.wr K90 W95 (Or.inr na_bb)
          refine Go.aload X95 hx hby (v := .ref bb) at_362 rfl rfl rfl ?_
          refine Go.iload X95 hx hby (v := x9) at_364 rfl rfl ?_
          refine Go.iconst X95 hx hby (v := (1 : Int32)) at_366 rfl rfl ?_
          refine Go.iadd X95 hx hby at_367 rfl ?_
          refine Go.sipush X95 hx hby (v := (128 : Int32)) at_368 rfl rfl ?_
          refine Go.iload X95 hx hby (v := x7) at_371 rfl rfl ?_
          refine Go.bipush X95 hx hby (v := (12 : Int32)) at_373 rfl rfl ?_
          refine Go.ishr X95 hx hby at_375 rfl ?_
          refine Go.bipush X95 hx hby (v := (63 : Int32)) at_376 rfl rfl ?_
          refine Go.iand X95 hx hby at_378 rfl ?_
          refine Go.ior X95 hx hby at_379 rfl ?_
          refine Go.i2b X95 hx hby at_380 rfl ?_
          rcases Decidable.em (inA (setA G_bb x9 (i2bF (i2bF ((240 : Int32) ||| (shrI x7 (18 : Int32)))))) (x9 + (1 : Int32))) with hj96 | hj96
          case inr => exact absurd ((if_neg hj96).symm.trans hf) nofun
          replace hf := (if_pos hj96).symm.trans hf
          refine Go.bastore X95 hx hby hZ e95 A95 hj96 at_381 rfl (fun T97 h97 X97 e97 W97 A97 => ?_)
          have N97 := Fr.snoc X97 N95 (Nat.le_trans Z0 na_bb)
          have K97 := Keep.wr K95 W97 (Or.inr na_bb)
          refine Go.aload X97 hx hby (v := .ref bb) at_382 rfl rfl rfl ?_
          refine Go.iload X97 hx hby (v := x9) at_384 rfl rfl ?_
          refine Go.iconst X97 hx hby (v := (2 : Int32)) at_386 rfl rfl ?_
          refine Go.iadd X97 hx hby at_387 rfl ?_
          refine Go.sipush X97 hx hby (v := (128 : Int32)) at_388 rfl rfl ?_
          refine Go.iload X97 hx hby (v := x7) at_391 rfl rfl ?_
          refine Go.bipush X97 hx hby (v := (6 : Int32)) at_393 rfl rfl ?_
          refine Go.ishr X97 hx hby at_395 rfl ?_
          refine Go.bipush X97 hx hby (v := (63 : Int32)) at_396 rfl rfl ?_
          refine Go.iand X97 hx hby at_398 rfl ?_
          refine Go.ior X97 hx hby at_399 rfl ?_
          refine Go.i2b X97 hx hby at_400 rfl ?_
          rcases Decidable.em (inA (setA (setA G_bb x9 (i2bF (i2bF ((240 : Int32) ||| (shrI x7 (18 : Int32)))))) (x9 + (1 : Int32)) (i2bF (i2bF ((128 : Int32) ||| ((shrI x7 (12 : Int32)) &&& (63 : Int32)))))) (x9 + (2 : Int32))) with hj98 | hj98
          case inr => exact absurd ((if_neg hj98).symm.trans hf) nofun
          replace hf := (if_pos hj98).symm.trans hf
          refine Go.bastore X97 hx hby hZ e97 A97 hj98 at_401 rfl (fun T99 h99 X99 e99 W99 A99 => ?_)
          have N99 := Fr.snoc X99 N97 (Nat.le_trans Z0 na_bb)
          have K99 := Keep.wr K97 W99 (Or.inr na_bb)
          refine Go.aload X99 hx hby (v := .ref bb) at_402 rfl rfl rfl ?_
          refine Go.iload X99 hx hby (v := x9) at_404 rfl rfl ?_
          refine Go.iconst X99 hx hby (v := (3 : Int32)) at_406 rfl rfl ?_
          refine Go.iadd X99 hx hby at_407 rfl ?_
          refine Go.sipush X99 hx hby (v := (128 : Int32)) at_408 rfl rfl ?_
          refine Go.iload X99 hx hby (v := x7) at_411 rfl rfl ?_
          refine Go.bipush X99 hx hby (v := (63 : Int32)) at_413 rfl rfl ?_
          refine Go.iand X99 hx hby at_415 rfl ?_
          refine Go.ior X99 hx hby at_416 rfl ?_
          refine Go.i2b X99 hx hby at_417 rfl ?_
          rcases Decidable.em (inA (setA (setA (setA G_bb x9 (i2bF (i2bF ((240 : Int32) ||| (shrI x7 (18 : Int32)))))) (x9 + (1 : Int32)) (i2bF (i2bF ((128 : Int32) ||| ((shrI x7 (12 : Int32)) &&& (63 : Int32)))))) (x9 + (2 : Int32)) (i2bF (i2bF ((128 : Int32) ||| ((shrI x7 (6 : Int32)) &&& (63 : Int32)))))) (x9 + (3 : Int32))) with hj100 | hj100
          case inr => exact absurd ((if_neg hj100).symm.trans hf) nofun
          replace hf := (if_pos hj100).symm.trans hf
          refine Go.bastore X99 hx hby hZ e99 A99 hj100 at_418 rfl (fun T101 h101 X101 e101 W101 A101 => ?_)
          have N101 := Fr.snoc X101 N99 (Nat.le_trans Z0 na_bb)
          have K101 := Keep.wr K99 W101 (Or.inr na_bb)
          exact B419 T101 h101 _ X101 e101 N101 K101 bb na_bb  (setA (setA (setA (setA G_bb x9 (i2bF (i2bF ((240 : Int32) ||| (shrI x7 (18 : Int32)))))) (x9 + (1 : Int32)) (i2bF (i2bF ((128 : Int32) ||| ((shrI x7 (12 : Int32)) &&& (63 : Int32)))))) (x9 + (2 : Int32)) (i2bF (i2bF ((128 : Int32) ||| ((shrI x7 (6 : Int32)) &&& (63 : Int32)))))) (x9 + (3 : Int32)) (i2bF (i2bF ((128 : Int32) ||| (x7 &&& (63 : Int32)))))) A101 x0 x1 x2 x3 x5 x6 x7 x9 hf
        · replace hf := (if_pos hc93).symm.trans hf
          refine Go.aload X90 hx hby (v := .ref bb) at_292 rfl rfl rfl ?_
          refine Go.iload X90 hx hby (v := x9) at_294 rfl rfl ?_
          refine Go.sipush X90 hx hby (v := (224 : Int32)) at_296 rfl rfl ?_
          refine Go.iload X90 hx hby (v := x7) at_299 rfl rfl ?_
          refine Go.bipush X90 hx hby (v := (12 : Int32)) at_301 rfl rfl ?_
          refine Go.ishr X90 hx hby at_303 rfl ?_
          refine Go.ior X90 hx hby at_304 rfl ?_
          refine Go.i2b X90 hx hby at_305 rfl ?_
          rcases Decidable.em (inA G_bb x9) with hj102 | hj102
          case inr => exact absurd ((if_neg hj102).symm.trans hf) nofun
          replace hf := (if_pos hj102).symm.trans hf
          refine Go.bastore X90 hx hby hZ e90 F90_bb hj102 at_306 rfl (fun T103 h103 X103 e103 W103 A103 => ?_)
          have N103 := Fr.snoc X103 N90 (Nat.le_trans Z0 na_bb)
          have K103 := Keep.wr K90 W103 (Or.inr na_bb)
          refine Go.aload X103 hx hby (v := .ref bb) at_307 rfl rfl rfl ?_
          refine Go.iload X103 hx hby (v := x9) at_309 rfl rfl ?_
          refine Go.iconst X103 hx hby (v := (1 : Int32)) at_311 rfl rfl ?_
          refine Go.iadd X103 hx hby at_312 rfl ?_
          refine Go.sipush X103 hx hby (v := (128 : Int32)) at_313 rfl rfl ?_
          refine Go.iload X103 hx hby (v := x7) at_316 rfl rfl ?_
          refine Go.bipush X103 hx hby (v := (6 : Int32)) at_318 rfl rfl ?_
          refine Go.ishr X103 hx hby at_320 rfl ?_
          refine Go.bipush X103 hx hby (v := (63 : Int32)) at_321 rfl rfl ?_
          refine Go.iand X103 hx hby at_323 rfl ?_
          refine Go.ior X103 hx hby at_324 rfl ?_
          refine Go.i2b X103 hx hby at_325 rfl ?_
          rcases Decidable.em (inA (setA G_bb x9 (i2bF (i2bF ((224 : Int32) ||| (shrI x7 (12 : Int32)))))) (x9 + (1 : Int32))) with hj104 | hj104
          case inr => exact absurd ((if_neg hj104).symm.trans hf) nofun
          replace hf := (if_pos hj104).symm.trans hf
          refine Go.bastore X103 hx hby hZ e103 A103 hj104 at_326 rfl (fun T105 h105 X105 e105 W105 A105 => ?_)
          have N105 := Fr.snoc X105 N103 (Nat.le_trans Z0 na_bb)
          have K105 := Keep.wr K103 W105 (Or.inr na_bb)
          refine Go.aload X105 hx hby (v := .ref bb) at_327 rfl rfl rfl ?_
          refine Go.iload X105 hx hby (v := x9) at_329 rfl rfl ?_
          refine Go.iconst X105 hx hby (v := (2 : Int32)) at_331 rfl rfl ?_
          refine Go.iadd X105 hx hby at_332 rfl ?_
          refine Go.sipush X105 hx hby (v := (128 : Int32)) at_333 rfl rfl ?_
          refine Go.iload X105 hx hby (v := x7) at_336 rfl rfl ?_
          refine Go.bipush X105 hx hby (v := (63 : Int32)) at_338 rfl rfl ?_
          refine Go.iand X105 hx hby at_340 rfl ?_
          refine Go.ior X105 hx hby at_341 rfl ?_
          refine Go.i2b X105 hx hby at_342 rfl ?_
          rcases Decidable.em (inA (setA (setA G_bb x9 (i2bF (i2bF ((224 : Int32) ||| (shrI x7 (12 : Int32)))))) (x9 + (1 : Int32)) (i2bF (i2bF ((128 : Int32) ||| ((shrI x7 (6 : Int32)) &&& (63 : Int32)))))) (x9 + (2 : Int32))) with hj106 | hj106
          case inr => exact absurd ((if_neg hj106).symm.trans hf) nofun
          replace hf := (if_pos hj106).symm.trans hf
          refine Go.bastore X105 hx hby hZ e105 A105 hj106 at_343 rfl (fun T107 h107 X107 e107 W107 A107 => ?_)
          have N107 := Fr.snoc X107 N105 (Nat.le_trans Z0 na_bb)
          have K107 := Keep.wr K105 W107 (Or.inr na_bb)
          refine Go.goto X107 hx hby (pc' := 419) at_344 (by decide) (by decide) ?_
          exact B419 T107 h107 _ X107 e107 N107 K107 bb na_bb  (setA (setA (setA G_bb x9 (i2bF (i2bF ((224 : Int32) ||| (shrI x7 (12 : Int32)))))) (x9 + (1 : Int32)) (i2bF (i2bF ((128 : Int32) ||| ((shrI x7 (6 : Int32)) &&& (63 : Int32)))))) (x9 + (2 : Int32)) (i2bF (i2bF ((128 : Int32) ||| (x7 &&& (63 : Int32)))))) A107 x0 x1 x2 x3 x5 x6 x7 x9 hf
      · replace hf := (if_pos hc92).symm.trans hf
        refine Go.aload X90 hx hby (v := .ref bb) at_251 rfl rfl rfl ?_
        refine Go.iload X90 hx hby (v := x9) at_253 rfl rfl ?_
        refine Go.sipush X90 hx hby (v := (192 : Int32)) at_255 rfl rfl ?_
        refine Go.iload X90 hx hby (v := x7) at_258 rfl rfl ?_
        refine Go.bipush X90 hx hby (v := (6 : Int32)) at_260 rfl rfl ?_
        refine Go.ishr X90 hx hby at_262 rfl ?_
        refine Go.ior X90 hx hby at_263 rfl ?_
        refine Go.i2b X90 hx hby at_264 rfl ?_
        rcases Decidable.em (inA G_bb x9) with hj108 | hj108
        case inr => exact absurd ((if_neg hj108).symm.trans hf) nofun
        replace hf := (if_pos hj108).symm.trans hf
        refine Go.bastore X90 hx hby hZ e90 F90_bb hj108 at_265 rfl (fun T109 h109 X109 e109 W109 A109 => ?_)
        have N109 := Fr.snoc X109 N90 (Nat.le_trans Z0 na_bb)
        have K109 := Keep.wr K90 W109 (Or.inr na_bb)
        refine Go.aload X109 hx hby (v := .ref bb) at_266 rfl rfl rfl ?_
        refine Go.iload X109 hx hby (v := x9) at_268 rfl rfl ?_
        refine Go.iconst X109 hx hby (v := (1 : Int32)) at_270 rfl rfl ?_
        refine Go.iadd X109 hx hby at_271 rfl ?_
        refine Go.sipush X109 hx hby (v := (128 : Int32)) at_272 rfl rfl ?_
        refine Go.iload X109 hx hby (v := x7) at_275 rfl rfl ?_
        refine Go.bipush X109 hx hby (v := (63 : Int32)) at_277 rfl rfl ?_
        refine Go.iand X109 hx hby at_279 rfl ?_
        refine Go.ior X109 hx hby at_280 rfl ?_
        refine Go.i2b X109 hx hby at_281 rfl ?_
        rcases Decidable.em (inA (setA G_bb x9 (i2bF (i2bF ((192 : Int32) ||| (shrI x7 (6 : Int32)))))) (x9 + (1 : Int32))) with hj110 | hj110
        case inr => exact absurd ((if_neg hj110).symm.trans hf) nofun
        replace hf := (if_pos hj110).symm.trans hf
        refine Go.bastore X109 hx hby hZ e109 A109 hj110 at_282 rfl (fun T111 h111 X111 e111 W111 A111 => ?_)
        have N111 := Fr.snoc X111 N109 (Nat.le_trans Z0 na_bb)
        have K111 := Keep.wr K109 W111 (Or.inr na_bb)
        refine Go.goto X111 hx hby (pc' := 419) at_283 (by decide) (by decide) ?_
        exact B419 T111 h111 _ X111 e111 N111 K111 bb na_bb  (setA (setA G_bb x9 (i2bF (i2bF ((192 : Int32) ||| (shrI x7 (6 : Int32)))))) (x9 + (1 : Int32)) (i2bF (i2bF ((128 : Int32) ||| (x7 &&& (63 : Int32)))))) A111 x0 x1 x2 x3 x5 x6 x7 x9 hf
    · replace hf := (if_pos hc91).symm.trans hf
      refine Go.aload X90 hx hby (v := .ref bb) at_234 rfl rfl rfl ?_
      refine Go.iload X90 hx hby (v := x9) at_236 rfl rfl ?_
      refine Go.iload X90 hx hby (v := x7) at_238 rfl rfl ?_
      refine Go.i2b X90 hx hby at_240 rfl ?_
      rcases Decidable.em (inA G_bb x9) with hj112 | hj112
      case inr => exact absurd ((if_neg hj112).symm.trans hf) nofun
      replace hf := (if_pos hj112).symm.trans hf
      refine Go.bastore X90 hx hby hZ e90 F90_bb hj112 at_241 rfl (fun T113 h113 X113 e113 W113 A113 => ?_)
      have N113 := Fr.snoc X113 N90 (Nat.le_trans Z0 na_bb)
      have K113 := Keep.wr K90 W113 (Or.inr na_bb)
      refine Go.goto X113 hx hby (pc' := 419) at_242 (by decide) (by decide) ?_
      exact B419 T113 h113 _ X113 e113 N113 K113 bb na_bb  (setA G_bb x9 (i2bF (i2bF x7))) A113 x0 x1 x2 x3 x5 x6 x7 x9 hf
  have B98 : ∀ (T : State) (h : Heap) (locs : List Loc), Stand p l e room_1 s m #[.int x0, .int x1, .int x2, .long x3] below meth c T locs 0 0 → T.heap = h → Fr n0 locs → Keep h0 h [] → ∀ (x0 : Int32) (x1 : Int32) (x2 : Int32) (x3 : Int64) (x5 : Int32) (x6 : Int32) (x7 : Int32) (u8 : Slot) (hu8 : u8 = .unset ∨ ∃ w, u8 = .val w ∧ w.category = 1), f0_98 x2 x3 x5 x7 = some r → Go p e below s room_1.cells room_1.slots (fun v h L => v = some (.int r) ∧ Fr n0 L) m T 98 #[.val (.int x0), .val (.int x1), .val (.int x2), .val (.long x3), .second, .val (.int x5), .val (.int x6), .val (.int x7), u8, .unset] [] := by
    intro T114 h114 _ X114 e114 N114 K114 x0 x1 x2 x3 x5 x6 x7 u8 hu8 hf
    unfold f0_98 at hf
    refine Go.bipush X114 hx hby (v := (12 : Int32)) at_98 rfl rfl ?_
    refine Go.newA X114 hx hby hZ (nn := 12) (ty := .byte) (hw _ (List.mem_of_getElem? (i := 1) rfl)) e114 at_100 rfl rfl rfl (by decide) (by decide) (by decide) (by decide) (by decide) (fun T115 h115 bb X115 e115 E115 z115 A115 => ?_)
    have na_bb := Nat.le_trans K114.1 z115
    have K115 := Keep.ext K114 E115
    have A115 : AryI Z h115 bb .byte ([0, 0, 0, 0, 0, 0, 0, 0, 0, 0, 0, 0] : List Int32) := A115
    refine Go.astore X115 hx hby (Ls' := #[.val (.int x0), .val (.int x1), .val (.int x2), .val (.long x3), .second, .val (.int x5), .val (.int x6), .val (.int x7), .val (.ref bb), .unset]) at_102 rfl rfl (XS.store1 rfl hu8 rfl) ?_
    refine Go.aload X115 hx hby (v := .ref bb) at_104 rfl rfl rfl ?_
    refine Go.iconst X115 hx hby (v := (0 : Int32)) at_106 rfl rfl ?_
    refine Go.lloadN X115 hx hby (v := x3) at_107 rfl rfl ?_
    refine Go.iconst X115 hx hby (v := (0 : Int32)) at_108 rfl rfl ?_
    obtain ⟨r116, g116, hf⟩ := Option.bind_eq_some_iff.mp hf
    refine Go.callSP X115 hx hby hZ (by rw [hml]; rfl) (W := 2) (argsL := [.long x3, .int (0 : Int32)]) (rest := [.int (0 : Int32), .ref bb]) hown (hw _ (List.mem_of_getElem? (i := 2) rfl)) (hw _ (List.mem_of_getElem? (i := 3) rfl)) (hw _ (List.mem_of_getElem? (i := 4) rfl)) (hw _ (List.mem_of_getElem? (i := 5) rfl)) (by decide) (rm1 l Z a0 hw x3 (0 : Int32)  h115 r116 g116 ) (by decide) (by decide) e115 pd_1 rfl rfl rfl (Nat.le_of_eq rfl) rfl rfl (by decide) (by decide) at_109 rfl (fun T116 X116 e116 => ?_)
    refine Go.bastore X116 hx hby hZ e116 A115 (own_inK (n := 12) rfl (by decide)) at_112 rfl (fun T118 h118 X118 e118 W118 A118 => ?_)
    have N118 := Fr.snoc X118 N114 (Nat.le_trans Z0 na_bb)
    have K118 := Keep.wr K115 W118 (Or.inr na_bb)
    have A118 : AryI Z h118 bb .byte ([(i2bF r116), 0, 0, 0, 0, 0, 0, 0, 0, 0, 0, 0] : List Int32) := A118
    refine Go.aload X118 hx hby (v := .ref bb) at_113 rfl rfl rfl ?_
    refine Go.iconst X118 hx hby (v := (1 : Int32)) at_115 rfl rfl ?_
    refine Go.lloadN X118 hx hby (v := x3) at_116 rfl rfl ?_
    refine Go.iconst X118 hx hby (v := (1 : Int32)) at_117 rfl rfl ?_
    obtain ⟨r119, g119, hf⟩ := Option.bind_eq_some_iff.mp hf
    refine Go.callSP X118 hx hby hZ (by rw [hml]; rfl) (W := 2) (argsL := [.long x3, .int (1 : Int32)]) (rest := [.int (1 : Int32), .ref bb]) hown (hw _ (List.mem_of_getElem? (i := 2) rfl)) (hw _ (List.mem_of_getElem? (i := 3) rfl)) (hw _ (List.mem_of_getElem? (i := 4) rfl)) (hw _ (List.mem_of_getElem? (i := 5) rfl)) (by decide) (rm1 l Z a0 hw x3 (1 : Int32)  h118 r119 g119 ) (by decide) (by decide) e118 pd_1 rfl rfl rfl (Nat.le_of_eq rfl) rfl rfl (by decide) (by decide) at_118 rfl (fun T119 X119 e119 => ?_)
    refine Go.bastore X119 hx hby hZ e119 A118 (own_inK (n := 12) rfl (by decide)) at_121 rfl (fun T121 h121 X121 e121 W121 A121 => ?_)
    have N121 := Fr.snoc X121 N118 (Nat.le_trans Z0 na_bb)
    have K121 := Keep.wr K118 W121 (Or.inr na_bb)
    have A121 : AryI Z h121 bb .byte ([(i2bF r116), (i2bF r119), 0, 0, 0, 0, 0, 0, 0, 0, 0, 0] : List Int32) := A121
    refine Go.aload X121 hx hby (v := .ref bb) at_122 rfl rfl rfl ?_
    refine Go.iconst X121 hx hby (v := (2 : Int32)) at_124 rfl rfl ?_
    refine Go.lloadN X121 hx hby (v := x3) at_125 rfl rfl ?_
    refine Go.iconst X121 hx hby (v := (2 : Int32)) at_126 rfl rfl ?_
    obtain ⟨r122, g122, hf⟩ := Option.bind_eq_some_iff.mp hf
    refine Go.callSP X121 hx hby hZ (by rw [hml]; rfl) (W := 2) (argsL := [.long x3, .int (2 : Int32)]) (rest := [.int (2 : Int32), .ref bb]) hown (hw _ (List.mem_of_getElem? (i := 2) rfl)) (hw _ (List.mem_of_getElem? (i := 3) rfl)) (hw _ (List.mem_of_getElem? (i := 4) rfl)) (hw _ (List.mem_of_getElem? (i := 5) rfl)) (by decide) (rm1 l Z a0 hw x3 (2 : Int32)  h121 r122 g122 ) (by decide) (by decide) e121 pd_1 rfl rfl rfl (Nat.le_of_eq rfl) rfl rfl (by decide) (by decide) at_127 rfl (fun T122 X122 e122 => ?_)
    refine Go.bastore X122 hx hby hZ e122 A121 (own_inK (n := 12) rfl (by decide)) at_130 rfl (fun T124 h124 X124 e124 W124 A124 => ?_)
    have N124 := Fr.snoc X124 N121 (Nat.le_trans Z0 na_bb)
    have K124 := Keep.wr K121 W124 (Or.inr na_bb)
    have A124 : AryI Z h124 bb .byte ([(i2bF r116), (i2bF r119), (i2bF r122), 0, 0, 0, 0, 0, 0, 0, 0, 0] : List Int32) := A124
    refine Go.aload X124 hx hby (v := .ref bb) at_131 rfl rfl rfl ?_
    refine Go.iconst X124 hx hby (v := (3 : Int32)) at_133 rfl rfl ?_
    refine Go.lloadN X124 hx hby (v := x3) at_134 rfl rfl ?_
    refine Go.iconst X124 hx hby (v := (3 : Int32)) at_135 rfl rfl ?_
    obtain ⟨r125, g125, hf⟩ := Option.bind_eq_some_iff.mp hf
    refine Go.callSP X124 hx hby hZ (by rw [hml]; rfl) (W := 2) (argsL := [.long x3, .int (3 : Int32)]) (rest := [.int (3 : Int32), .ref bb]) hown (hw _ (List.mem_of_getElem? (i := 2) rfl)) (hw _ (List.mem_of_getElem? (i := 3) rfl)) (hw _ (List.mem_of_getElem? (i := 4) rfl)) (hw _ (List.mem_of_getElem? (i := 5) rfl)) (by decide) (rm1 l Z a0 hw x3 (3 : Int32)  h124 r125 g125 ) (by decide) (by decide) e124 pd_1 rfl rfl rfl (Nat.le_of_eq rfl) rfl rfl (by decide) (by decide) at_136 rfl (fun T125 X125 e125 => ?_)
    refine Go.bastore X125 hx hby hZ e125 A124 (own_inK (n := 12) rfl (by decide)) at_139 rfl (fun T127 h127 X127 e127 W127 A127 => ?_)
    have N127 := Fr.snoc X127 N124 (Nat.le_trans Z0 na_bb)
    have K127 := Keep.wr K124 W127 (Or.inr na_bb)
    have A127 : AryI Z h127 bb .byte ([(i2bF r116), (i2bF r119), (i2bF r122), (i2bF r125), 0, 0, 0, 0, 0, 0, 0, 0] : List Int32) := A127
    refine Go.aload X127 hx hby (v := .ref bb) at_140 rfl rfl rfl ?_
    refine Go.iconst X127 hx hby (v := (4 : Int32)) at_142 rfl rfl ?_
    refine Go.lloadN X127 hx hby (v := x3) at_143 rfl rfl ?_
    refine Go.iconst X127 hx hby (v := (4 : Int32)) at_144 rfl rfl ?_
    obtain ⟨r128, g128, hf⟩ := Option.bind_eq_some_iff.mp hf
    refine Go.callSP X127 hx hby hZ (by rw [hml]; rfl) (W := 2) (argsL := [.long x3, .int (4 : Int32)]) (rest := [.int (4 : Int32), .ref bb]) hown (hw _ (List.mem_of_getElem? (i := 2) rfl)) (hw _ (List.mem_of_getElem? (i := 3) rfl)) (hw _ (List.mem_of_getElem? (i := 4) rfl)) (hw _ (List.mem_of_getElem? (i := 5) rfl)) (by decide) (rm1 l Z a0 hw x3 (4 : Int32)  h127 r128 g128 ) (by decide) (by decide) e127 pd_1 rfl rfl rfl (Nat.le_of_eq rfl) rfl rfl (by decide) (by decide) at_145 rfl (fun T128 X128 e128 => ?_)
    refine Go.bastore X128 hx hby hZ e128 A127 (own_inK (n := 12) rfl (by decide)) at_148 rfl (fun T130 h130 X130 e130 W130 A130 => ?_)
    have N130 := Fr.snoc X130 N127 (Nat.le_trans Z0 na_bb)
    have K130 := Keep.wr K127 W130 (Or.inr na_bb)
    have A130 : AryI Z h130 bb .byte ([(i2bF r116), (i2bF r119), (i2bF r122), (i2bF r125), (i2bF r128), 0, 0, 0, 0, 0, 0, 0] : List Int32) := A130
    refine Go.aload X130 hx hby (v := .ref bb) at_149 rfl rfl rfl ?_
    refine Go.iconst X130 hx hby (v := (5 : Int32)) at_151 rfl rfl ?_
    refine Go.lloadN X130 hx hby (v := x3) at_152 rfl rfl ?_
    refine Go.iconst X130 hx hby (v := (5 : Int32)) at_153 rfl rfl ?_
    obtain ⟨r131, g131, hf⟩ := Option.bind_eq_some_iff.mp hf
    refine Go.callSP X130 hx hby hZ (by rw [hml]; rfl) (W := 2) (argsL := [.long x3, .int (5 : Int32)]) (rest := [.int (5 : Int32), .ref bb]) hown (hw _ (List.mem_of_getElem? (i := 2) rfl)) (hw _ (List.mem_of_getElem? (i := 3) rfl)) (hw _ (List.mem_of_getElem? (i := 4) rfl)) (hw _ (List.mem_of_getElem? (i := 5) rfl)) (by decide) (rm1 l Z a0 hw x3 (5 : Int32)  h130 r131 g131 ) (by decide) (by decide) e130 pd_1 rfl rfl rfl (Nat.le_of_eq rfl) rfl rfl (by decide) (by decide) at_154 rfl (fun T131 X131 e131 => ?_)
    refine Go.bastore X131 hx hby hZ e131 A130 (own_inK (n := 12) rfl (by decide)) at_157 rfl (fun T133 h133 X133 e133 W133 A133 => ?_)
    have N133 := Fr.snoc X133 N130 (Nat.le_trans Z0 na_bb)
    have K133 := Keep.wr K130 W133 (Or.inr na_bb)
    have A133 : AryI Z h133 bb .byte ([(i2bF r116), (i2bF r119), (i2bF r122), (i2bF r125), (i2bF r128), (i2bF r131), 0, 0, 0, 0, 0, 0] : List Int32) := A133
    refine Go.aload X133 hx hby (v := .ref bb) at_158 rfl rfl rfl ?_
    refine Go.bipush X133 hx hby (v := (6 : Int32)) at_160 rfl rfl ?_
    refine Go.lloadN X133 hx hby (v := x3) at_162 rfl rfl ?_
    refine Go.bipush X133 hx hby (v := (6 : Int32)) at_163 rfl rfl ?_
    obtain ⟨r134, g134, hf⟩ := Option.bind_eq_some_iff.mp hf
    refine Go.callSP X133 hx hby hZ (by rw [hml]; rfl) (W := 2) (argsL := [.long x3, .int (6 : Int32)]) (rest := [.int (6 : Int32), .ref bb]) hown (hw _ (List.mem_of_getElem? (i := 2) rfl)) (hw _ (List.mem_of_getElem? (i := 3) rfl)) (hw _ (List.mem_of_getElem? (i := 4) rfl)) (hw _ (List.mem_of_getElem? (i := 5) rfl)) (by decide) (rm1 l Z a0 hw x3 (6 : Int32)  h133 r134 g134 ) (by decide) (by decide) e133 pd_1 rfl rfl rfl (Nat.le_of_eq rfl) rfl rfl (by decide) (by decide) at_165 rfl (fun T134 X134 e134 => ?_)
    refine Go.bastore X134 hx hby hZ e134 A133 (own_inK (n := 12) rfl (by decide)) at_168 rfl (fun T136 h136 X136 e136 W136 A136 => ?_)
    have N136 := Fr.snoc X136 N133 (Nat.le_trans Z0 na_bb)
    have K136 := Keep.wr K133 W136 (Or.inr na_bb)
    have A136 : AryI Z h136 bb .byte ([(i2bF r116), (i2bF r119), (i2bF r122), (i2bF r125), (i2bF r128), (i2bF r131), (i2bF r134), 0, 0, 0, 0, 0] : List Int32) := A136
    refine Go.aload X136 hx hby (v := .ref bb) at_169 rfl rfl rfl ?_
    refine Go.bipush X136 hx hby (v := (7 : Int32)) at_171 rfl rfl ?_
    refine Go.lloadN X136 hx hby (v := x3) at_173 rfl rfl ?_
    refine Go.bipush X136 hx hby (v := (7 : Int32)) at_174 rfl rfl ?_
    obtain ⟨r137, g137, hf⟩ := Option.bind_eq_some_iff.mp hf
    refine Go.callSP X136 hx hby hZ (by rw [hml]; rfl) (W := 2) (argsL := [.long x3, .int (7 : Int32)]) (rest := [.int (7 : Int32), .ref bb]) hown (hw _ (List.mem_of_getElem? (i := 2) rfl)) (hw _ (List.mem_of_getElem? (i := 3) rfl)) (hw _ (List.mem_of_getElem? (i := 4) rfl)) (hw _ (List.mem_of_getElem? (i := 5) rfl)) (by decide) (rm1 l Z a0 hw x3 (7 : Int32)  h136 r137 g137 ) (by decide) (by decide) e136 pd_1 rfl rfl rfl (Nat.le_of_eq rfl) rfl rfl (by decide) (by decide) at_176 rfl (fun T137 X137 e137 => ?_)
    refine Go.bastore X137 hx hby hZ e137 A136 (own_inK (n := 12) rfl (by decide)) at_179 rfl (fun T139 h139 X139 e139 W139 A139 => ?_)
    have N139 := Fr.snoc X139 N136 (Nat.le_trans Z0 na_bb)
    have K139 := Keep.wr K136 W139 (Or.inr na_bb)
    have A139 : AryI Z h139 bb .byte ([(i2bF r116), (i2bF r119), (i2bF r122), (i2bF r125), (i2bF r128), (i2bF r131), (i2bF r134), (i2bF r137), 0, 0, 0, 0] : List Int32) := A139
    refine Go.aload X139 hx hby (v := .ref bb) at_180 rfl rfl rfl ?_
    refine Go.bipush X139 hx hby (v := (8 : Int32)) at_182 rfl rfl ?_
    refine Go.lloadN X139 hx hby (v := x3) at_184 rfl rfl ?_
    refine Go.bipush X139 hx hby (v := (8 : Int32)) at_185 rfl rfl ?_
    obtain ⟨r140, g140, hf⟩ := Option.bind_eq_some_iff.mp hf
    refine Go.callSP X139 hx hby hZ (by rw [hml]; rfl) (W := 2) (argsL := [.long x3, .int (8 : Int32)]) (rest := [.int (8 : Int32), .ref bb]) hown (hw _ (List.mem_of_getElem? (i := 2) rfl)) (hw _ (List.mem_of_getElem? (i := 3) rfl)) (hw _ (List.mem_of_getElem? (i := 4) rfl)) (hw _ (List.mem_of_getElem? (i := 5) rfl)) (by decide) (rm1 l Z a0 hw x3 (8 : Int32)  h139 r140 g140 ) (by decide) (by decide) e139 pd_1 rfl rfl rfl (Nat.le_of_eq rfl) rfl rfl (by decide) (by decide) at_187 rfl (fun T140 X140 e140 => ?_)
    refine Go.bastore X140 hx hby hZ e140 A139 (own_inK (n := 12) rfl (by decide)) at_190 rfl (fun T142 h142 X142 e142 W142 A142 => ?_)
    have N142 := Fr.snoc X142 N139 (Nat.le_trans Z0 na_bb)
    have K142 := Keep.wr K139 W142 (Or.inr na_bb)
    have A142 : AryI Z h142 bb .byte ([(i2bF r116), (i2bF r119), (i2bF r122), (i2bF r125), (i2bF r128), (i2bF r131), (i2bF r134), (i2bF r137), (i2bF r140), 0, 0, 0] : List Int32) := A142
    refine Go.aload X142 hx hby (v := .ref bb) at_191 rfl rfl rfl ?_
    refine Go.bipush X142 hx hby (v := (9 : Int32)) at_193 rfl rfl ?_
    refine Go.lloadN X142 hx hby (v := x3) at_195 rfl rfl ?_
    refine Go.bipush X142 hx hby (v := (9 : Int32)) at_196 rfl rfl ?_
    obtain ⟨r143, g143, hf⟩ := Option.bind_eq_some_iff.mp hf
    refine Go.callSP X142 hx hby hZ (by rw [hml]; rfl) (W := 2) (argsL := [.long x3, .int (9 : Int32)]) (rest := [.int (9 : Int32), .ref bb]) hown (hw _ (List.mem_of_getElem? (i := 2) rfl)) (hw _ (List.mem_of_getElem? (i := 3) rfl)) (hw _ (List.mem_of_getElem? (i := 4) rfl)) (hw _ (List.mem_of_getElem? (i := 5) rfl)) (by decide) (rm1 l Z a0 hw x3 (9 : Int32)  h142 r143 g143 ) (by decide) (by decide) e142 pd_1 rfl rfl rfl (Nat.le_of_eq rfl) rfl rfl (by decide) (by decide) at_198 rfl (fun T143 X143 e143 => ?_)
    refine Go.bastore X143 hx hby hZ e143 A142 (own_inK (n := 12) rfl (by decide)) at_201 rfl (fun T145 h145 X145 e145 W145 A145 => ?_)
    have N145 := Fr.snoc X145 N142 (Nat.le_trans Z0 na_bb)
    have K145 := Keep.wr K142 W145 (Or.inr na_bb)
    have A145 : AryI Z h145 bb .byte ([(i2bF r116), (i2bF r119), (i2bF r122), (i2bF r125), (i2bF r128), (i2bF r131), (i2bF r134), (i2bF r137), (i2bF r140), (i2bF r143), 0, 0] : List Int32) := A145
    refine Go.aload X145 hx hby (v := .ref bb) at_202 rfl rfl rfl ?_
    refine Go.bipush X145 hx hby (v := (10 : Int32)) at_204 rfl rfl ?_
    refine Go.lloadN X145 hx hby (v := x3) at_206 rfl rfl ?_
    refine Go.bipush X145 hx hby (v := (10 : Int32)) at_207 rfl rfl ?_
    obtain ⟨r146, g146, hf⟩ := Option.bind_eq_some_iff.mp hf
    refine Go.callSP X145 hx hby hZ (by rw [hml]; rfl) (W := 2) (argsL := [.long x3, .int (10 : Int32)]) (rest := [.int (10 : Int32), .ref bb]) hown (hw _ (List.mem_of_getElem? (i := 2) rfl)) (hw _ (List.mem_of_getElem? (i := 3) rfl)) (hw _ (List.mem_of_getElem? (i := 4) rfl)) (hw _ (List.mem_of_getElem? (i := 5) rfl)) (by decide) (rm1 l Z a0 hw x3 (10 : Int32)  h145 r146 g146 ) (by decide) (by decide) e145 pd_1 rfl rfl rfl (Nat.le_of_eq rfl) rfl rfl (by decide) (by decide) at_209 rfl (fun T146 X146 e146 => ?_)
    refine Go.bastore X146 hx hby hZ e146 A145 (own_inK (n := 12) rfl (by decide)) at_212 rfl (fun T148 h148 X148 e148 W148 A148 => ?_)
    have N148 := Fr.snoc X148 N145 (Nat.le_trans Z0 na_bb)
    have K148 := Keep.wr K145 W148 (Or.inr na_bb)
    have A148 : AryI Z h148 bb .byte ([(i2bF r116), (i2bF r119), (i2bF r122), (i2bF r125), (i2bF r128), (i2bF r131), (i2bF r134), (i2bF r137), (i2bF r140), (i2bF r143), (i2bF r146), 0] : List Int32) := A148
    refine Go.aload X148 hx hby (v := .ref bb) at_213 rfl rfl rfl ?_
    refine Go.bipush X148 hx hby (v := (11 : Int32)) at_215 rfl rfl ?_
    refine Go.lloadN X148 hx hby (v := x3) at_217 rfl rfl ?_
    refine Go.bipush X148 hx hby (v := (11 : Int32)) at_218 rfl rfl ?_
    obtain ⟨r149, g149, hf⟩ := Option.bind_eq_some_iff.mp hf
    refine Go.callSP X148 hx hby hZ (by rw [hml]; rfl) (W := 2) (argsL := [.long x3, .int (11 : Int32)]) (rest := [.int (11 : Int32), .ref bb]) hown (hw _ (List.mem_of_getElem? (i := 2) rfl)) (hw _ (List.mem_of_getElem? (i := 3) rfl)) (hw _ (List.mem_of_getElem? (i := 4) rfl)) (hw _ (List.mem_of_getElem? (i := 5) rfl)) (by decide) (rm1 l Z a0 hw x3 (11 : Int32)  h148 r149 g149 ) (by decide) (by decide) e148 pd_1 rfl rfl rfl (Nat.le_of_eq rfl) rfl rfl (by decide) (by decide) at_220 rfl (fun T149 X149 e149 => ?_)
    refine Go.bastore X149 hx hby hZ e149 A148 (own_inK (n := 12) rfl (by decide)) at_223 rfl (fun T151 h151 X151 e151 W151 A151 => ?_)
    have N151 := Fr.snoc X151 N148 (Nat.le_trans Z0 na_bb)
    have K151 := Keep.wr K148 W151 (Or.inr na_bb)
    have A151 : AryI Z h151 bb .byte ([(i2bF r116), (i2bF r119), (i2bF r122), (i2bF r125), (i2bF r128), (i2bF r131), (i2bF r134), (i2bF r137), (i2bF r140), (i2bF r143), (i2bF r146), (i2bF r149)] : List Int32) := A151
    refine Go.iloadN X151 hx hby (v := x2) at_224 rfl rfl ?_
    refine Go.iconst X151 hx hby (v := (3 : Int32)) at_225 rfl rfl ?_
    refine Go.iand X151 hx hby at_226 rfl ?_
    refine Go.istore X151 hx hby (Ls' := #[.val (.int x0), .val (.int x1), .val (.int x2), .val (.long x3), .second, .val (.int x5), .val (.int x6), .val (.int x7), .val (.ref bb), .val (.int (x2 &&& (3 : Int32)))]) at_227 rfl rfl ?_
    exact B229 T151 h151 _ X151 e151 N151 K151 bb na_bb  ([(i2bF r116), (i2bF r119), (i2bF r122), (i2bF r125), (i2bF r128), (i2bF r131), (i2bF r134), (i2bF r137), (i2bF r140), (i2bF r143), (i2bF r146), (i2bF r149)] : List Int32) A151 x0 x1 x2 x3 x5 x6 x7 (x2 &&& (3 : Int32)) hf
  have B83 : ∀ (T : State) (h : Heap) (locs : List Loc), Stand p l e room_1 s m #[.int x0, .int x1, .int x2, .long x3] below meth c T locs 0 0 → T.heap = h → Fr n0 locs → Keep h0 h [] → ∀ (x0 : Int32) (x1 : Int32) (x2 : Int32) (x3 : Int64) (x5 : Int32) (x6 : Int32) (x8 : Int32) (t0 : Int32), f0_83 x2 x3 x5 t0 = some r → Go p e below s room_1.cells room_1.slots (fun v h L => v = some (.int r) ∧ Fr n0 L) m T 83 #[.val (.int x0), .val (.int x1), .val (.int x2), .val (.long x3), .second, .val (.int x5), .val (.int x6), .unset, .val (.int x8), .unset] [.int t0] := by
    intro T152 h152 _ X152 e152 N152 K152 x0 x1 x2 x3 x5 x6 x8 t0 hf
    unfold f0_83 at hf
    refine Go.istore X152 hx hby (Ls' := #[.val (.int x0), .val (.int x1), .val (.int x2), .val (.long x3), .second, .val (.int x5), .val (.int x6), .val (.int t0), .val (.int x8), .unset]) at_83 rfl rfl ?_
    refine Go.goto X152 hx hby (pc' := 98) at_85 (by decide) (by decide) ?_
    exact B98 T152 h152 _ X152 e152 N152 K152     x0 x1 x2 x3 x5 x6 t0 (.val (.int x8)) (Or.inr ⟨_, rfl, rfl⟩) hf
  have hf := hf0
  unfold f0_0 at hf
  refine Go.iloadN X0 hx hby (v := x0) at_0 rfl rfl ?_
  refine Go.iconst X0 hx hby (v := (3 : Int32)) at_1 rfl rfl ?_
  refine Go.iand X0 hx hby at_2 rfl ?_
  refine Go.istore X0 hx hby (Ls' := #[.val (.int x0), .val (.int x1), .val (.int x2), .val (.long x3), .second, .val (.int (x0 &&& (3 : Int32))), .unset, .unset, .unset, .unset]) at_3 rfl rfl ?_
  refine Go.iloadN X0 hx hby (v := x1) at_5 rfl rfl ?_
  refine Go.ldcI X0 hx hby hZ (v := (2147483647 : Int32)) hown (hw _ (List.mem_of_getElem? (i := 0) rfl)) at_6 rfl ?_
  refine Go.iand X0 hx hby at_8 rfl ?_
  refine Go.istore X0 hx hby (Ls' := #[.val (.int x0), .val (.int x1), .val (.int x2), .val (.long x3), .second, .val (.int (x0 &&& (3 : Int32))), .val (.int (x1 &&& (2147483647 : Int32))), .unset, .unset, .unset]) at_9 rfl rfl ?_
  refine Go.iload X0 hx hby (v := (x0 &&& (3 : Int32))) at_11 rfl rfl ?_
  refine Go.if_ne X0 hx hby (pc' := 27) at_13 (by decide) (by decide) rfl (fun hc153 => ?_) (fun hc153 => ?_)
  · replace hf := (if_neg hc153).symm.trans hf
    refine Go.iload X0 hx hby (v := (x0 &&& (3 : Int32))) at_27 rfl rfl ?_
    refine Go.iconst X0 hx hby (v := (1 : Int32)) at_29 rfl rfl ?_
    refine Go.icmp_ne X0 hx hby (pc' := 48) at_30 (by decide) (by decide) rfl (fun hc154 => ?_) (fun hc154 => ?_)
    · replace hf := (if_neg hc154).symm.trans hf
      refine Go.iload X0 hx hby (v := (x0 &&& (3 : Int32))) at_48 rfl rfl ?_
      refine Go.iconst X0 hx hby (v := (2 : Int32)) at_50 rfl rfl ?_
      refine Go.icmp_ne X0 hx hby (pc' := 88) at_51 (by decide) (by decide) rfl (fun hc155 => ?_) (fun hc155 => ?_)
      · replace hf := (if_neg hc155).symm.trans hf
        refine Go.ldcI X0 hx hby hZ (v := (65536 : Int32)) hown (hw _ (List.mem_of_getElem? (i := 12) rfl)) at_88 rfl ?_
        refine Go.iload X0 hx hby (v := (x1 &&& (2147483647 : Int32))) at_90 rfl rfl ?_
        refine Go.ldcI X0 hx hby hZ (v := (1048576 : Int32)) hown (hw _ (List.mem_of_getElem? (i := 13) rfl)) at_92 rfl ?_
        refine Go.irem X0 hx hby at_94 rfl (by decide) ?_
        refine Go.iadd X0 hx hby at_95 rfl ?_
        refine Go.istore X0 hx hby (Ls' := #[.val (.int x0), .val (.int x1), .val (.int x2), .val (.long x3), .second, .val (.int (x0 &&& (3 : Int32))), .val (.int (x1 &&& (2147483647 : Int32))), .val (.int ((65536 : Int32) + (remI (x1 &&& (2147483647 : Int32)) (1048576 : Int32)))), .unset, .unset]) at_96 rfl rfl ?_
        exact B98 s₁ h0 _ X0 e0 N0 K0     x0 x1 x2 x3 (x0 &&& (3 : Int32)) (x1 &&& (2147483647 : Int32)) ((65536 : Int32) + (remI (x1 &&& (2147483647 : Int32)) (1048576 : Int32))) .unset (Or.inl rfl) hf
      · replace hf := (if_pos hc155).symm.trans hf
        refine Go.iload X0 hx hby (v := (x1 &&& (2147483647 : Int32))) at_54 rfl rfl ?_
        refine Go.ldcI X0 hx hby hZ (v := (61440 : Int32)) hown (hw _ (List.mem_of_getElem? (i := 10) rfl)) at_56 rfl ?_
        refine Go.irem X0 hx hby at_58 rfl (by decide) ?_
        refine Go.istore X0 hx hby (Ls' := #[.val (.int x0), .val (.int x1), .val (.int x2), .val (.long x3), .second, .val (.int (x0 &&& (3 : Int32))), .val (.int (x1 &&& (2147483647 : Int32))), .unset, .val (.int (remI (x1 &&& (2147483647 : Int32)) (61440 : Int32))), .unset]) at_59 rfl rfl ?_
        refine Go.iload X0 hx hby (v := (remI (x1 &&& (2147483647 : Int32)) (61440 : Int32))) at_61 rfl rfl ?_
        refine Go.ldcI X0 hx hby hZ (v := (53248 : Int32)) hown (hw _ (List.mem_of_getElem? (i := 11) rfl)) at_63 rfl ?_
        refine Go.icmp_ge X0 hx hby (pc' := 77) at_65 (by decide) (by decide) rfl (fun hc156 => ?_) (fun hc156 => ?_)
        · replace hf := (if_neg hc156).symm.trans hf
          refine Go.sipush X0 hx hby (v := (4096 : Int32)) at_77 rfl rfl ?_
          refine Go.iload X0 hx hby (v := (remI (x1 &&& (2147483647 : Int32)) (61440 : Int32))) at_80 rfl rfl ?_
          refine Go.iadd X0 hx hby at_82 rfl ?_
          exact B83 s₁ h0 _ X0 e0 N0 K0     x0 x1 x2 x3 (x0 &&& (3 : Int32)) (x1 &&& (2147483647 : Int32)) (remI (x1 &&& (2147483647 : Int32)) (61440 : Int32)) ((4096 : Int32) + (remI (x1 &&& (2147483647 : Int32)) (61440 : Int32))) hf
        · replace hf := (if_pos hc156).symm.trans hf
          refine Go.sipush X0 hx hby (v := (2048 : Int32)) at_68 rfl rfl ?_
          refine Go.iload X0 hx hby (v := (remI (x1 &&& (2147483647 : Int32)) (61440 : Int32))) at_71 rfl rfl ?_
          refine Go.iadd X0 hx hby at_73 rfl ?_
          refine Go.goto X0 hx hby (pc' := 83) at_74 (by decide) (by decide) ?_
          exact B83 s₁ h0 _ X0 e0 N0 K0     x0 x1 x2 x3 (x0 &&& (3 : Int32)) (x1 &&& (2147483647 : Int32)) (remI (x1 &&& (2147483647 : Int32)) (61440 : Int32)) ((2048 : Int32) + (remI (x1 &&& (2147483647 : Int32)) (61440 : Int32))) hf
    · replace hf := (if_pos hc154).symm.trans hf
      refine Go.sipush X0 hx hby (v := (128 : Int32)) at_33 rfl rfl ?_
      refine Go.iload X0 hx hby (v := (x1 &&& (2147483647 : Int32))) at_36 rfl rfl ?_
      refine Go.sipush X0 hx hby (v := (1920 : Int32)) at_38 rfl rfl ?_
      refine Go.irem X0 hx hby at_41 rfl (by decide) ?_
      refine Go.iadd X0 hx hby at_42 rfl ?_
      refine Go.istore X0 hx hby (Ls' := #[.val (.int x0), .val (.int x1), .val (.int x2), .val (.long x3), .second, .val (.int (x0 &&& (3 : Int32))), .val (.int (x1 &&& (2147483647 : Int32))), .val (.int ((128 : Int32) + (remI (x1 &&& (2147483647 : Int32)) (1920 : Int32)))), .unset, .unset]) at_43 rfl rfl ?_
      refine Go.goto X0 hx hby (pc' := 98) at_45 (by decide) (by decide) ?_
      exact B98 s₁ h0 _ X0 e0 N0 K0     x0 x1 x2 x3 (x0 &&& (3 : Int32)) (x1 &&& (2147483647 : Int32)) ((128 : Int32) + (remI (x1 &&& (2147483647 : Int32)) (1920 : Int32))) .unset (Or.inl rfl) hf
  · replace hf := (if_pos hc153).symm.trans hf
    refine Go.iload X0 hx hby (v := (x1 &&& (2147483647 : Int32))) at_16 rfl rfl ?_
    refine Go.sipush X0 hx hby (v := (128 : Int32)) at_18 rfl rfl ?_
    refine Go.irem X0 hx hby at_21 rfl (by decide) ?_
    refine Go.istore X0 hx hby (Ls' := #[.val (.int x0), .val (.int x1), .val (.int x2), .val (.long x3), .second, .val (.int (x0 &&& (3 : Int32))), .val (.int (x1 &&& (2147483647 : Int32))), .val (.int (remI (x1 &&& (2147483647 : Int32)) (128 : Int32))), .unset, .unset]) at_22 rfl rfl ?_
    refine Go.goto X0 hx hby (pc' := 98) at_24 (by decide) (by decide) ?_
    exact B98 s₁ h0 _ X0 e0 N0 K0     x0 x1 x2 x3 (x0 &&& (3 : Int32)) (x1 &&& (2147483647 : Int32)) (remI (x1 &&& (2147483647 : Int32)) (128 : Int32)) .unset (Or.inl rfl) hf
theorem own_mask (x : Int32) (k : Nat) (hk : k ≤ 31) (m : Int32) (hm : m = Int32.ofNat (2 ^ k - 1)) : (x &&& m).toInt = x.toInt % (2 ^ k : Nat) := by
  subst hm
  have h1 : (x &&& Int32.ofNat (2 ^ k - 1)).toBitVec.toNat = x.toBitVec.toNat % 2 ^ k := by
    rw [Int32.toBitVec_and, BitVec.toNat_and]
    have : (Int32.ofNat (2 ^ k - 1)).toBitVec.toNat = 2 ^ k - 1 := by
      show (BitVec.ofNat 32 (2 ^ k - 1)).toNat = _
      rw [BitVec.toNat_ofNat]
      apply Nat.mod_eq_of_lt
      have : 2 ^ k ≤ 2 ^ 31 := Nat.pow_le_pow_right (by decide) hk
      omega
    rw [this, Nat.and_two_pow_sub_one_eq_mod]
  have hp : 2 ^ k ≤ 2 ^ 31 := Nat.pow_le_pow_right (by decide) hk
  have hpos : 0 < 2 ^ k := Nat.two_pow_pos k
  have hlt := Nat.mod_lt x.toBitVec.toNat hpos
  show (x &&& Int32.ofNat (2 ^ k - 1)).toBitVec.toInt = x.toBitVec.toInt % _
  rw [BitVec.toInt_eq_toNat_cond, h1, if_pos (by omega), BitVec.toInt_eq_toNat_cond]
  split
  · simp
  · have hd : (2 ^ k : Nat) ∣ 2 ^ 32 := Nat.pow_dvd_pow 2 (by omega)
    obtain ⟨q, hq⟩ := hd
    rw [Int.sub_emod, show ((2 ^ 32 : Nat) : Int) % (2 ^ k : Nat) = 0 by rw [hq]; simp]
    simp
theorem own_fin32 (x : Int32) (N : Nat) (h0 : 0 ≤ x.toInt) (h1 : x.toInt < N) : ∃ n : Fin N, x = Int32.ofNat n.val := by
  refine ⟨⟨x.toInt.toNat, by omega⟩, Int32.toInt_inj.mp ?_⟩
  have := x.toInt_lt
  rw [Int32.toInt_ofNat_of_lt (by show x.toInt.toNat < _; omega)]
  show x.toInt = (x.toInt.toNat : Int); omega
theorem own_remI (x y : Int32) (hx : 0 ≤ x.toInt) (hy : 0 < y.toInt) : (remI x y).toInt = x.toInt % y.toInt := by
  have h1 := x.toInt_lt; have h2 := y.toInt_lt
  have hq : (x / y).toInt = x.toInt / y.toInt := by
    rw [Int32.toInt_div, Int.tdiv_eq_ediv_of_nonneg hx]
    have a1 : 0 ≤ x.toInt / y.toInt := Int.ediv_nonneg hx (by omega)
    have a2 : x.toInt / y.toInt ≤ x.toInt := Int.ediv_le_self _ hx
    exact Int.bmod_eq_of_le (by omega) (by omega)
  have e := Int.emod_add_mul_ediv x.toInt y.toInt
  have m0 := Int.emod_nonneg x.toInt (b := y.toInt) (by omega)
  have hm : (x / y * y).toInt = x.toInt / y.toInt * y.toInt := by
    rw [Int32.toInt_mul, hq]
    have : x.toInt / y.toInt * y.toInt = y.toInt * (x.toInt / y.toInt) := Int.mul_comm _ _
    have a1 : 0 ≤ y.toInt * (x.toInt / y.toInt) := Int.mul_nonneg (by omega) (Int.ediv_nonneg hx (by omega))
    exact Int.bmod_eq_of_le (by omega) (by omega)
  unfold remI
  rw [Int32.toInt_sub, hm]
  have : x.toInt / y.toInt * y.toInt = y.toInt * (x.toInt / y.toInt) := Int.mul_comm _ _
  have m1 := Int.emod_lt_of_pos x.toInt hy
  rw [show x.toInt - x.toInt / y.toInt * y.toInt = x.toInt % y.toInt by omega]
  exact Int.bmod_eq_of_le (by omega) (by omega)
theorem own_bm (x : Int) (n : Nat) (m : Int) (h : (2 * m).toNat = n) (hm : 0 < m) : x.bmod n = (x + m) % (2 * m) - m := by
  have hn : (n : Int) = 2 * m := by omega
  rw [Int.bmod_def, hn, show ((2 * m + 1) / 2 : Int) = m by omega]
  have h1 := Int.emod_nonneg x (b := 2 * m) (by omega)
  have h2 := Int.emod_lt_of_pos x (b := 2 * m) (by omega)
  have e := Int.emod_add_mul_ediv x (2 * m)
  generalize x / (2 * m) = q at *
  generalize x % (2 * m) = r at *
  subst e
  rw [show r + 2 * m * q + m = (r + m) + 2 * m * q by omega, Int.add_mul_emod_self_left]
  split
  · rw [Int.emod_eq_of_lt (by omega) (by omega)]; omega
  · rw [show r + m = (r - m) + 2 * m * 1 by omega, Int.add_mul_emod_self_left, Int.emod_eq_of_lt (by omega) (by omega)]; omega
theorem own_i2b (x : Int32) : (i2bF x).toInt = (x.toInt + 128) % 256 - 128 := by
  unfold i2bF; rw [Int8.toInt_toInt32, Int32.toInt_toInt8]; exact own_bm _ _ 128 rfl (by decide)
theorem own_i2s (x : Int32) : (i2sF x).toInt = (x.toInt + 32768) % 65536 - 32768 := by
  unfold i2sF; rw [Int16.toInt_toInt32, Int32.toInt_toInt16]; exact own_bm _ _ 32768 rfl (by decide)
theorem own_tonat (x : Int32) : (x.toBitVec.toNat : Int) = x.toInt % 4294967296 := by
  show _ = x.toBitVec.toInt % 4294967296
  rw [BitVec.toInt_eq_toNat_cond]
  have := x.toBitVec.isLt
  split <;> omega
theorem own_toint (x : Int32) (h : x.toBitVec.toNat < 2147483648) : x.toInt = x.toBitVec.toNat := by
  show x.toBitVec.toInt = _
  rw [BitVec.toInt_eq_toNat_cond, if_pos (by omega)]
theorem own_tonatJ (x : Int64) : (x.toBitVec.toNat : Int) = x.toInt % 18446744073709551616 := by
  show _ = x.toBitVec.toInt % 18446744073709551616
  rw [BitVec.toInt_eq_toNat_cond]
  have := x.toBitVec.isLt
  split <;> omega
theorem own_tointJ (x : Int64) (h : x.toBitVec.toNat < 9223372036854775808) : x.toInt = x.toBitVec.toNat := by
  show x.toBitVec.toInt = _
  rw [BitVec.toInt_eq_toNat_cond, if_pos (by omega)]
theorem own_i2c (x : Int32) : (i2cF x).toInt = x.toInt % 65536 := by
  have h : (i2cF x).toBitVec.toNat = x.toBitVec.toNat % 65536 := by
    show (BitVec.setWidth 32 (BitVec.setWidth 16 x.toBitVec)).toNat = _
    rw [BitVec.toNat_setWidth, BitVec.toNat_setWidth]; omega
  have := own_tonat x
  rw [own_toint _ (by omega), h]; omega
theorem own_amt : ∀ k : Fin 32, ((Int32.ofNat k.val &&& 31).toBitVec.smod 32).toNat = k.val := by decide +kernel
theorem own_amtU : ∀ k : Fin 32, ((Int32.ofNat k.val &&& 31).toUInt32.toBitVec.toNat) = k.val := by decide +kernel
theorem own_shr (x : Int32) (k : Nat) (hk : k < 32) : (shrI x (Int32.ofNat k)).toInt = x.toInt / (2 ^ k : Nat) := by
  show (BitVec.sshiftRight x.toBitVec ((Int32.ofNat k &&& 31).toBitVec.smod 32).toNat).toInt = x.toBitVec.toInt / _
  rw [own_amt ⟨k, hk⟩, BitVec.toInt_sshiftRight, Int.shiftRight_eq_div_pow]
theorem own_shl (x : Int32) (k : Nat) (hk : k < 32) : (shlI x (Int32.ofNat k)).toInt = (x.toInt * (2 ^ k : Nat)).bmod 4294967296 := by
  show (x.toBitVec <<< ((Int32.ofNat k &&& 31).toBitVec.smod 32)).toInt = (x.toBitVec.toInt * _).bmod _
  rw [BitVec.shiftLeft_eq', own_amt ⟨k, hk⟩, BitVec.toInt_shiftLeft, Nat.shiftLeft_eq, BitVec.toInt_eq_toNat_bmod]
  rw [Int.bmod_mul_bmod]
  congr 1
theorem own_ushr (x : Int32) (k : Nat) (hk : k < 32) (h0 : 0 < k) : (XT.ushr x (Int32.ofNat k)).toInt = (x.toInt % 4294967296) / (2 ^ k : Nat) := by
  have h : (XT.ushr x (Int32.ofNat k)).toBitVec.toNat = x.toBitVec.toNat / 2 ^ k := by
    show (x.toBitVec >>> ((Int32.ofNat k &&& 31).toUInt32.toBitVec % 32)).toNat = _
    rw [BitVec.ushiftRight_eq', BitVec.toNat_ushiftRight, BitVec.toNat_umod, own_amtU ⟨k, hk⟩, Nat.shiftRight_eq_div_pow]
    show _ / 2 ^ (k % 32) = _
    rw [Nat.mod_eq_of_lt hk]
  have h1 := x.toBitVec.isLt
  have h2 : x.toBitVec.toNat / 2 ^ k ≤ x.toBitVec.toNat / 2 ^ 1 := Nat.div_le_div_left (Nat.pow_le_pow_right (by decide) h0) (by decide)
  rw [own_toint _ (by omega), h, ← own_tonat]; rfl
theorem own_ushr0 (x : Int32) (k : Nat) (hk : k < 32) (h0 : 0 ≤ x.toInt) : (XT.ushr x (Int32.ofNat k)).toInt = x.toInt / (2 ^ k : Nat) := by
  have h1 := x.toInt_lt
  by_cases q : k = 0
  · subst q
    have : XT.ushr x (Int32.ofNat 0) = x := by
      apply Int32.toBitVec_inj.mp
      apply BitVec.eq_of_toNat_eq
      show (x.toBitVec >>> ((Int32.ofNat 0 &&& 31).toUInt32.toBitVec % 32)).toNat = _
      rw [BitVec.ushiftRight_eq', BitVec.toNat_ushiftRight, BitVec.toNat_umod, own_amtU ⟨0, hk⟩]; rfl
    rw [this]; simp
  · rw [own_ushr x k hk (by omega), Int.emod_eq_of_lt h0 (by omega)]
theorem own_if {c : Prop} [Decidable c] {α : Type} {a b r : α} (h1 : c → a = r) (h2 : ¬ c → b = r) : (if c then a else b) = r := by
  by_cases h : c
  · rw [if_pos h]; exact h1 h
  · rw [if_neg h]; exact h2 h
theorem own_maskJ (x : Int64) (k : Nat) (hk : k ≤ 63) (m : Int64) (hm : m = Int64.ofNat (2 ^ k - 1)) : (x &&& m).toInt = x.toInt % (2 ^ k : Nat) := by
  subst hm
  have h1 : (x &&& Int64.ofNat (2 ^ k - 1)).toBitVec.toNat = x.toBitVec.toNat % 2 ^ k := by
    rw [Int64.toBitVec_and, BitVec.toNat_and]
    have : (Int64.ofNat (2 ^ k - 1)).toBitVec.toNat = 2 ^ k - 1 := by
      show (BitVec.ofNat 64 (2 ^ k - 1)).toNat = _
      rw [BitVec.toNat_ofNat]
      apply Nat.mod_eq_of_lt
      have : 2 ^ k ≤ 2 ^ 63 := Nat.pow_le_pow_right (by decide) hk
      omega
    rw [this, Nat.and_two_pow_sub_one_eq_mod]
  have hp : 2 ^ k ≤ 2 ^ 63 := Nat.pow_le_pow_right (by decide) hk
  have hpos : 0 < 2 ^ k := Nat.two_pow_pos k
  have hlt := Nat.mod_lt x.toBitVec.toNat hpos
  show (x &&& Int64.ofNat (2 ^ k - 1)).toBitVec.toInt = x.toBitVec.toInt % _
  rw [BitVec.toInt_eq_toNat_cond, h1, if_pos (by omega), BitVec.toInt_eq_toNat_cond]
  split
  · simp
  · have hd : (2 ^ k : Nat) ∣ 2 ^ 64 := Nat.pow_dvd_pow 2 (by omega)
    obtain ⟨q, hq⟩ := hd
    rw [Int.sub_emod, show ((2 ^ 64 : Nat) : Int) % (2 ^ k : Nat) = 0 by rw [hq]; simp]
    simp
theorem own_amtJ : ∀ k : Fin 64, ((Int32.ofNat k.val).toInt64.toUInt64 &&& Int64.toUInt64 63).toBitVec.toNat = k.val := by decide +kernel
theorem own_ushrL (x : Int64) (k : Nat) (hk : k < 64) (h0 : 0 < k) : (XT.ushrL x (Int32.ofNat k)).toInt = (x.toInt % 18446744073709551616) / (2 ^ k : Nat) := by
  have h : (XT.ushrL x (Int32.ofNat k)).toBitVec.toNat = x.toBitVec.toNat / 2 ^ k := by
    show (x.toBitVec >>> (((Int32.ofNat k).toInt64.toUInt64 &&& Int64.toUInt64 63).toBitVec % 64)).toNat = _
    rw [BitVec.ushiftRight_eq', BitVec.toNat_ushiftRight, BitVec.toNat_umod, own_amtJ ⟨k, hk⟩, Nat.shiftRight_eq_div_pow]
    show _ / 2 ^ (k % 64) = _
    rw [Nat.mod_eq_of_lt hk]
  have h1 := x.toBitVec.isLt
  have h2 : x.toBitVec.toNat / 2 ^ k ≤ x.toBitVec.toNat / 2 ^ 1 := Nat.div_le_div_left (Nat.pow_le_pow_right (by decide) h0) (by decide)
  rw [own_tointJ _ (by omega), h, ← own_tonatJ]; rfl
theorem own_inR {α : Type} {A : List α} {j : Int32} (n : Nat) (hl : A.length = n) (h0 : 0 ≤ j.toInt) (h1 : j.toInt < n) : inA A j := by
  rintro (h | h)
  · rw [Int32.lt_iff_toInt_lt] at h; change j.toInt < 0 at h; omega
  · rw [hl] at h; simp only [Int32.toNatClampNeg] at h; omega

theorem own_or (x y : Int32) (k : Nat) (hk : k ≤ 31) (hx : 0 ≤ x.toInt) (hd : x.toInt % (2 ^ k : Nat) = 0) (hy : 0 ≤ y.toInt) (hy' : y.toInt < (2 ^ k : Nat)) : (x ||| y).toInt = x.toInt + y.toInt := by
  have h1 := x.toInt_lt; have h2 := y.toInt_lt
  have tx := own_tonat x; have ty := own_tonat y
  rw [Int.emod_eq_of_lt hx (by omega)] at tx
  rw [Int.emod_eq_of_lt hy (by omega)] at ty
  have hp : 2 ^ k ≤ 2 ^ 31 := Nat.pow_le_pow_right (by decide) hk
  have e : (x ||| y).toBitVec.toNat = x.toBitVec.toNat + y.toBitVec.toNat := by
    rw [Int32.toBitVec_or, BitVec.toNat_or]
    have hm : x.toBitVec.toNat % 2 ^ k = 0 := by
      have : ((x.toBitVec.toNat % 2 ^ k : Nat) : Int) = 0 := by rw [Int.natCast_emod, tx]; exact hd
      omega
    have hq := Nat.div_add_mod x.toBitVec.toNat (2 ^ k)
    rw [hm, Nat.add_zero] at hq
    rw [← hq]
    exact (Nat.two_pow_add_eq_or_of_lt (by omega) _).symm
  have hlt : (x ||| y).toBitVec.toNat < 2147483648 := by
    rw [Int32.toBitVec_or, BitVec.toNat_or]
    exact Nat.or_lt_two_pow (n := 31) (by omega) (by omega)
  rw [own_toint _ hlt, e]; omega
theorem own_shlN (x : Int32) (k : Nat) (hk : k < 32) (h0 : 0 ≤ x.toInt) (h : x.toInt * (2 ^ k : Nat) < 2147483648) : (shlI x (Int32.ofNat k)).toInt = x.toInt * (2 ^ k : Nat) := by
  rw [own_shl x k hk]
  have : 0 ≤ x.toInt * (2 ^ k : Nat) := Int.mul_nonneg h0 (Int.natCast_nonneg _)
  exact Int.bmod_eq_of_le (by omega) (by omega)
theorem own_same (A : List Int32) (j v : Int32) (h : inA A j) : atA (setA A j v) j = v := by
  unfold atA setA
  rw [List.getD_eq_getElem?_getD, List.getElem?_set_self (Nat.lt_of_not_le fun q => h (Or.inr q))]; rfl
theorem own_diff (A : List Int32) (i j v : Int32) (h : j.toNatClampNeg ≠ i.toNatClampNeg) : atA (setA A j v) i = atA A i := by
  unfold atA setA
  rw [List.getD_eq_getElem?_getD, List.getD_eq_getElem?_getD, List.getElem?_set_ne h]
theorem own_len (A : List Int32) (j v : Int32) : (setA A j v).length = A.length := List.length_set
/-- what a byte is worth, as it is stored and read -/
theorem own_byte (v : Int32) (h0 : 0 ≤ v.toInt) (h1 : v.toInt < 256) : ((i2bF (i2bF v)) &&& 255).toInt = v.toInt := by
  rw [own_mask _ 8 (by decide) 255 rfl, own_i2b, own_i2b]; omega
theorem own_low (v : Int32) (h0 : 0 ≤ v.toInt) (h1 : v.toInt < 256) : ((i2bF (i2bF v)) &&& 63).toInt = v.toInt % 64 := by
  rw [own_mask _ 6 (by decide) 63 rfl, own_i2b, own_i2b]; omega
theorem own_cont (x : Int32) : (i2bF (i2bF (128 ||| (x &&& 63))) &&& 63).toInt = x.toInt % 64 := by
  have m6 := own_mask x 6 (by decide) 63 rfl
  have o1 := own_or 128 (x &&& 63) 6 (by decide) (by decide) (by decide) (by omega) (by change _ < (64 : Int); omega)
  change (128 ||| (x &&& 63)).toInt = 128 + _ at o1
  have w1 := own_low (128 ||| (x &&& 63)) (by omega) (by omega)
  omega
theorem own_lead (L x : Int32) (n : Nat) (hn : n ≤ 8) (l : Int) (hL : L.toInt = l) (h0 : 0 ≤ l) (h1 : l + (2 ^ n : Nat) ≤ 256) (h2 : l % (2 ^ n : Nat) = 0) (h3 : 0 ≤ x.toInt) (h4 : x.toInt < (2 ^ n : Nat)) : (i2bF (i2bF (L ||| x)) &&& 255).toInt = l + x.toInt := by
  have o := own_or L x n (by omega) (by omega) (by rw [hL]; exact h2) h3 h4
  rw [own_byte (L ||| x) (by omega) (by omega), o, hL]
theorem own_sh (x : Int32) (k : Nat) (hk : k < 32) (y : Int32) (hy : y = Int32.ofNat k) (p : Int) (hp : ((2 ^ k : Nat) : Int) = p) : (shrI x y).toInt = x.toInt / p := by
  subst hy hp; exact own_shr x k hk
theorem own_sl (x : Int32) (k : Nat) (hk : k < 32) (y : Int32) (hy : y = Int32.ofNat k) (p : Int) (hp : ((2 ^ k : Nat) : Int) = p) (h0 : 0 ≤ x.toInt) (h : x.toInt * p < 2147483648) : (shlI x y).toInt = x.toInt * p := by
  subst hy hp; exact own_shlN x k hk h0 h
theorem own_oo (x y : Int32) (k : Nat) (hk : k ≤ 31) (p : Int) (hp : ((2 ^ k : Nat) : Int) = p) (a b : Int) (hx : x.toInt = a) (hy : y.toInt = b) (h0 : 0 ≤ a) (h1 : a % p = 0) (h2 : 0 ≤ b) (h3 : b < p) : (x ||| y).toInt = a + b := by
  subst hx hy hp; exact own_or x y k hk h0 h1 h2 h3
theorem own_dec2 (u0 u1 u2 : Int32) (q a b : Int) (e0 : u0.toInt = 224 + q) (e1 : u1.toInt = a) (e2 : u2.toInt = b) (q0 : 0 ≤ q) (q1 : q < 16) (a0 : 0 ≤ a) (a1 : a < 64) (b0 : 0 ≤ b) (b1 : b < 64) : ((shlI (u0 &&& 15) 12 ||| shlI u1 6) ||| u2).toInt = q * 4096 + a * 64 + b := by
  have m4 := own_mask u0 4 (by decide) 15 rfl
  have m : (u0 &&& 15).toInt = q := by rw [m4, e0]; change (224 + q) % 16 = q; omega
  have s12 := own_sl (u0 &&& 15) 12 (by decide) 12 rfl 4096 rfl (by omega) (by omega)
  have s6 := own_sl u1 6 (by decide) 6 rfl 64 rfl (by omega) (by omega)
  rw [m] at s12
  rw [e1] at s6
  have x1 := own_oo _ _ 12 (by decide) 4096 rfl _ _ s12 s6 (by omega) (by omega) (by omega) (by omega)
  exact own_oo _ _ 6 (by decide) 64 rfl _ _ x1 e2 (by omega) (by omega) (by omega) (by omega)
theorem own_dec3 (u0 u1 u2 u3 : Int32) (q a b c : Int) (e0 : u0.toInt = 240 + q) (e1 : u1.toInt = a) (e2 : u2.toInt = b) (e3 : u3.toInt = c) (q0 : 0 ≤ q) (q1 : q < 8) (a0 : 0 ≤ a) (a1 : a < 64) (b0 : 0 ≤ b) (b1 : b < 64) (c0 : 0 ≤ c) (c1 : c < 64) : (((shlI (u0 &&& 7) 18 ||| shlI u1 12) ||| shlI u2 6) ||| u3).toInt = q * 262144 + a * 4096 + b * 64 + c := by
  have m4 := own_mask u0 3 (by decide) 7 rfl
  have m : (u0 &&& 7).toInt = q := by rw [m4, e0]; change (240 + q) % 8 = q; omega
  have s18 := own_sl (u0 &&& 7) 18 (by decide) 18 rfl 262144 rfl (by omega) (by omega)
  have s12 := own_sl u1 12 (by decide) 12 rfl 4096 rfl (by omega) (by omega)
  have s6 := own_sl u2 6 (by decide) 6 rfl 64 rfl (by omega) (by omega)
  rw [m] at s18
  rw [e1] at s12
  rw [e2] at s6
  have x1 := own_oo _ _ 18 (by decide) 262144 rfl _ _ s18 s12 (by omega) (by omega) (by omega) (by omega)
  have x2 := own_oo _ _ 12 (by decide) 4096 rfl _ _ x1 s6 (by omega) (by omega) (by omega) (by omega)
  exact own_oo _ _ 6 (by decide) 64 rfl _ _ x2 e3 (by omega) (by omega) (by omega) (by omega)
section Bytes
variable (A : List Int32) (hl : A.length = 12) (cp : Int32)
theorem own_pos : ∀ s : Fin 4, (Int32.ofNat s.val).toNatClampNeg = s.val ∧ (Int32.ofNat s.val + 1).toNatClampNeg = s.val + 1 ∧ (Int32.ofNat s.val + 2).toNatClampNeg = s.val + 2 ∧ (Int32.ofNat s.val + 3).toNatClampNeg = s.val + 3 ∧ ¬ Int32.ofNat s.val < 0 ∧ ¬ Int32.ofNat s.val + 1 < 0 ∧ ¬ Int32.ofNat s.val + 2 < 0 ∧ ¬ Int32.ofNat s.val + 3 < 0 := by decide +kernel
theorem own_in {B : List Int32} {j : Int32} {n : Nat} (h : B.length = 12) (h0 : ¬ j < 0) (h1 : j.toNatClampNeg = n) (h2 : n < 12) : inA B j := by
  rintro (q | q)
  · exact h0 q
  · rw [h, h1] at q; omega
theorem own_k0 (A : List Int32) (hl : A.length = 12) (cp : Int32) (s : Fin 4) (h0 : 0 ≤ cp.toInt) (h1 : cp.toInt < 128) : f0_229 0 cp (Int32.ofNat s.val) A = some 1 := by
  obtain ⟨p0, p1, p2, p3, q0, q1, q2, q3⟩ := own_pos s
  generalize Int32.ofNat s.val = t at *
  have i0 : inA A t := own_in hl q0 p0 (by omega)
  unfold f0_229
  rw [if_pos rfl, if_pos i0]
  unfold f0_419 f2_0
  have j0 : inA (setA A t (i2bF (i2bF cp))) t := own_in ((own_len _ _ _).trans hl) q0 p0 (by omega)
  have v0 := own_byte cp h0 (by omega)
  have e0 : (i2bF (i2bF cp)) &&& 255 = cp := Int32.toInt_inj.mp v0
  rw [if_pos j0, own_same A t _ i0, e0, if_pos (by rw [Int32.lt_iff_toInt_lt]; exact h1), Option.bind_some, if_pos rfl]
theorem own_k1 (A : List Int32) (hl : A.length = 12) (cp : Int32) (s : Fin 4) (h0 : 128 ≤ cp.toInt) (h1 : cp.toInt < 2048) : f0_229 1 cp (Int32.ofNat s.val) A = some 1 := by
  obtain ⟨p0, p1, p2, p3, q0, q1, q2, q3⟩ := own_pos s
  generalize Int32.ofNat s.val = t at *
  have i0 : inA A t := own_in hl q0 p0 (by omega)
  have r6 := own_shr cp 6 (by decide)
  change (shrI cp 6).toInt = cp.toInt / 64 at r6
  have o0 := own_or 192 (shrI cp 6) 6 (by decide) (by decide) (by decide) (by omega) (by change _ < (64 : Int); omega)
  change (192 ||| shrI cp 6).toInt = 192 + _ at o0
  have m6 := own_mask cp 6 (by decide) 63 rfl
  have o1 := own_or 128 (cp &&& 63) 6 (by decide) (by decide) (by decide) (by omega) (by change _ < (64 : Int); omega)
  change (128 ||| (cp &&& 63)).toInt = 128 + _ at o1
  have w0 := own_byte (192 ||| shrI cp 6) (by omega) (by omega)
  have w1 := own_low (128 ||| (cp &&& 63)) (by omega) (by omega)
  unfold f0_229
  rw [if_neg (by decide), if_pos rfl, if_pos i0]
  generalize h2 : i2bF (i2bF (192 ||| shrI cp 6)) = v0 at *
  generalize h3 : i2bF (i2bF (128 ||| (cp &&& 63))) = v1 at *
  have i1 : inA (setA A t v0) (t + 1) := own_in ((own_len _ _ _).trans hl) q1 p1 (by omega)
  rw [if_pos i1]
  have L2 : (setA (setA A t v0) (t + 1) v1).length = 12 := (own_len _ _ _).trans ((own_len _ _ _).trans hl)
  have a0 : atA (setA (setA A t v0) (t + 1) v1) t = v0 := by rw [own_diff _ _ _ _ (by omega), own_same A t _ i0]
  have a1 : atA (setA (setA A t v0) (t + 1) v1) (t + 1) = v1 := own_same _ _ _ i1
  unfold f0_419 f2_0
  rw [if_pos (own_in L2 q0 p0 (by omega)), if_pos (own_in L2 q1 p1 (by omega)), a0, a1]
  have m5 := own_mask (v0 &&& 255) 5 (by decide) 31 rfl
  have s6 := own_shlN ((v0 &&& 255) &&& 31) 6 (by decide) (by omega) (by omega)
  change (shlI ((v0 &&& 255) &&& 31) 6).toInt = _ * 64 at s6
  have o2 := own_or (shlI ((v0 &&& 255) &&& 31) 6) (v1 &&& 63) 6 (by decide) (by omega) (by change _ % (64 : Int) = 0; omega) (by omega) (by change _ < (64 : Int); omega)
  have fin : shlI ((v0 &&& 255) &&& 31) 6 ||| (v1 &&& 63) = cp := Int32.toInt_inj.mp (by omega)
  rw [if_neg (by rw [Int32.lt_iff_toInt_lt]; change ¬ _ < (128 : Int); omega), if_pos (by rw [Int32.lt_iff_toInt_lt]; change _ < (224 : Int); omega), fin, Option.bind_some, if_pos rfl]
theorem own_k2 (A : List Int32) (hl : A.length = 12) (cp : Int32) (s : Fin 4) (h0 : 2048 ≤ cp.toInt) (h1 : cp.toInt < 65536) : f0_229 2 cp (Int32.ofNat s.val) A = some 1 := by
  obtain ⟨p0, p1, p2, p3, q0, q1, q2, q3⟩ := own_pos s
  generalize Int32.ofNat s.val = t at *
  have i0 : inA A t := own_in hl q0 p0 (by omega)
  have r12 := own_sh cp 12 (by decide) 12 rfl 4096 rfl
  have r6 := own_sh cp 6 (by decide) 6 rfl 64 rfl
  have w0 := own_lead 224 (shrI cp 12) 4 (by decide) 224 rfl (by decide) (by decide) (by decide) (by omega) (by change _ < (16 : Int); omega)
  have w1 := own_cont (shrI cp 6)
  have w2 := own_cont cp
  rw [r12] at w0
  rw [r6] at w1
  have fin0 := own_dec2 _ _ _ _ _ _ w0 w1 w2 (by omega) (by omega) (by omega) (by omega) (by omega) (by omega)
  have w0' : 224 ≤ (i2bF (i2bF (224 ||| shrI cp 12)) &&& 255).toInt ∧ (i2bF (i2bF (224 ||| shrI cp 12)) &&& 255).toInt < 240 := by rw [w0]; omega
  rw [show cp.toInt / 4096 * 4096 + cp.toInt / 64 % 64 * 64 + cp.toInt % 64 = cp.toInt by omega] at fin0
  have fin := Int32.toInt_inj.mp fin0
  clear fin0 w0 w1 w2 r12 r6
  unfold f0_229
  rw [if_neg (by decide), if_neg (by decide), if_pos rfl, if_pos i0]
  generalize h2 : i2bF (i2bF (224 ||| shrI cp 12)) = v0 at *
  generalize h3 : i2bF (i2bF (128 ||| (shrI cp 6 &&& 63))) = v1 at *
  generalize h4 : i2bF (i2bF (128 ||| (cp &&& 63))) = v2 at *
  have i1 : inA (setA A t v0) (t + 1) := own_in ((own_len _ _ _).trans hl) q1 p1 (by omega)
  have i2 : inA (setA (setA A t v0) (t + 1) v1) (t + 2) := own_in ((own_len _ _ _).trans ((own_len _ _ _).trans hl)) q2 p2 (by omega)
  rw [if_pos i1, if_pos i2]
  have L3 : (setA (setA (setA A t v0) (t + 1) v1) (t + 2) v2).length = 12 := (own_len _ _ _).trans ((own_len _ _ _).trans ((own_len _ _ _).trans hl))
  have a0 : atA (setA (setA (setA A t v0) (t + 1) v1) (t + 2) v2) t = v0 := by rw [own_diff _ _ _ _ (by omega), own_diff _ _ _ _ (by omega), own_same A t _ i0]
  have a1 : atA (setA (setA (setA A t v0) (t + 1) v1) (t + 2) v2) (t + 1) = v1 := by rw [own_diff _ _ _ _ (by omega), own_same _ _ _ i1]
  have a2 : atA (setA (setA (setA A t v0) (t + 1) v1) (t + 2) v2) (t + 2) = v2 := own_same _ _ _ i2
  unfold f0_419 f2_0
  rw [if_pos (own_in L3 q0 p0 (by omega)), if_pos (own_in L3 q1 p1 (by omega)), if_pos (own_in L3 q1 p1 (by omega)), if_pos (own_in L3 q2 p2 (by omega)), a0, a1, a2]
  rw [if_neg (by rw [Int32.lt_iff_toInt_lt]; change ¬ _ < (128 : Int); omega), if_neg (by rw [Int32.lt_iff_toInt_lt]; change ¬ _ < (224 : Int); omega), if_pos (by rw [Int32.lt_iff_toInt_lt]; change _ < (240 : Int); omega), fin, Option.bind_some, if_pos rfl]
theorem own_k3 (A : List Int32) (hl : A.length = 12) (cp : Int32) (s : Fin 4) (h0 : 65536 ≤ cp.toInt) (h1 : cp.toInt < 1114112) : f0_229 3 cp (Int32.ofNat s.val) A = some 1 := by
  obtain ⟨p0, p1, p2, p3, q0, q1, q2, q3⟩ := own_pos s
  generalize Int32.ofNat s.val = t at *
  have i0 : inA A t := own_in hl q0 p0 (by omega)
  have r18 := own_sh cp 18 (by decide) 18 rfl 262144 rfl
  have r12 := own_sh cp 12 (by decide) 12 rfl 4096 rfl
  have r6 := own_sh cp 6 (by decide) 6 rfl 64 rfl
  have w0 := own_lead 240 (shrI cp 18) 3 (by decide) 240 rfl (by decide) (by decide) (by decide) (by omega) (by change _ < (8 : Int); omega)
  have w1 := own_cont (shrI cp 12)
  have w2 := own_cont (shrI cp 6)
  have w3 := own_cont cp
  rw [r18] at w0
  rw [r12] at w1
  rw [r6] at w2
  have fin0 := own_dec3 _ _ _ _ _ _ _ _ w0 w1 w2 w3 (by omega) (by omega) (by omega) (by omega) (by omega) (by omega) (by omega) (by omega)
  have w0' : 240 ≤ (i2bF (i2bF (240 ||| shrI cp 18)) &&& 255).toInt := by rw [w0]; omega
  rw [show cp.toInt / 262144 * 262144 + cp.toInt / 4096 % 64 * 4096 + cp.toInt / 64 % 64 * 64 + cp.toInt % 64 = cp.toInt by omega] at fin0
  have fin := Int32.toInt_inj.mp fin0
  clear fin0 w0 w1 w2 w3 r18 r12 r6
  unfold f0_229
  rw [if_neg (by decide), if_neg (by decide), if_neg (by decide), if_pos i0]
  generalize h2 : i2bF (i2bF (240 ||| shrI cp 18)) = v0 at *
  generalize h3 : i2bF (i2bF (128 ||| (shrI cp 12 &&& 63))) = v1 at *
  generalize h4 : i2bF (i2bF (128 ||| (shrI cp 6 &&& 63))) = v2 at *
  generalize h5 : i2bF (i2bF (128 ||| (cp &&& 63))) = v3 at *
  have i1 : inA (setA A t v0) (t + 1) := own_in ((own_len _ _ _).trans hl) q1 p1 (by omega)
  have i2 : inA (setA (setA A t v0) (t + 1) v1) (t + 2) := own_in ((own_len _ _ _).trans ((own_len _ _ _).trans hl)) q2 p2 (by omega)
  have i3 : inA (setA (setA (setA A t v0) (t + 1) v1) (t + 2) v2) (t + 3) := own_in ((own_len _ _ _).trans ((own_len _ _ _).trans ((own_len _ _ _).trans hl))) q3 p3 (by omega)
  rw [if_pos i1, if_pos i2, if_pos i3]
  have L4 : (setA (setA (setA (setA A t v0) (t + 1) v1) (t + 2) v2) (t + 3) v3).length = 12 := (own_len _ _ _).trans ((own_len _ _ _).trans ((own_len _ _ _).trans ((own_len _ _ _).trans hl)))
  have a0 : atA (setA (setA (setA (setA A t v0) (t + 1) v1) (t + 2) v2) (t + 3) v3) t = v0 := by rw [own_diff _ _ _ _ (by omega), own_diff _ _ _ _ (by omega), own_diff _ _ _ _ (by omega), own_same A t _ i0]
  have a1 : atA (setA (setA (setA (setA A t v0) (t + 1) v1) (t + 2) v2) (t + 3) v3) (t + 1) = v1 := by rw [own_diff _ _ _ _ (by omega), own_diff _ _ _ _ (by omega), own_same _ _ _ i1]
  have a2 : atA (setA (setA (setA (setA A t v0) (t + 1) v1) (t + 2) v2) (t + 3) v3) (t + 2) = v2 := by rw [own_diff _ _ _ _ (by omega), own_same _ _ _ i2]
  have a3 : atA (setA (setA (setA (setA A t v0) (t + 1) v1) (t + 2) v2) (t + 3) v3) (t + 3) = v3 := own_same _ _ _ i3
  unfold f0_419 f2_0
  rw [if_pos (own_in L4 q0 p0 (by omega)), if_pos (own_in L4 q1 p1 (by omega)), if_pos (own_in L4 q1 p1 (by omega)), if_pos (own_in L4 q2 p2 (by omega)), if_pos (own_in L4 q1 p1 (by omega)), if_pos (own_in L4 q2 p2 (by omega)), if_pos (own_in L4 q3 p3 (by omega)), a0, a1, a2, a3]
  rw [if_neg (by rw [Int32.lt_iff_toInt_lt]; change ¬ _ < (128 : Int); omega), if_neg (by rw [Int32.lt_iff_toInt_lt]; change ¬ _ < (224 : Int); omega), if_neg (by rw [Int32.lt_iff_toInt_lt]; change ¬ _ < (240 : Int); omega), fin, Option.bind_some, if_pos rfl]
end Bytes
theorem own_tot (x : Int64) (i : Int32) : ∃ v, f1_0 x i = some v := ⟨_, rfl⟩
theorem own_98 (x2 : Int32) (x3 : Int64) (k cp : Int32) (h : ∀ (A : List Int32), A.length = 12 → ∀ s : Fin 4, f0_229 k cp (Int32.ofNat s.val) A = some 1) : f0_98 x2 x3 k cp = some 1 := by
  have m := own_mask x2 2 (by decide) 3 rfl
  obtain ⟨s, hs⟩ := own_fin32 (x2 &&& 3) 4 (by omega) (by omega)
  obtain ⟨v0, e0⟩ := own_tot x3 0
  obtain ⟨v1, e1⟩ := own_tot x3 1
  obtain ⟨v2, e2⟩ := own_tot x3 2
  obtain ⟨v3, e3⟩ := own_tot x3 3
  obtain ⟨v4, e4⟩ := own_tot x3 4
  obtain ⟨v5, e5⟩ := own_tot x3 5
  obtain ⟨v6, e6⟩ := own_tot x3 6
  obtain ⟨v7, e7⟩ := own_tot x3 7
  obtain ⟨v8, e8⟩ := own_tot x3 8
  obtain ⟨v9, e9⟩ := own_tot x3 9
  obtain ⟨v10, e10⟩ := own_tot x3 10
  obtain ⟨v11, e11⟩ := own_tot x3 11
  unfold f0_98
  rw [e0, Option.bind_some, e1, Option.bind_some, e2, Option.bind_some, e3, Option.bind_some, e4, Option.bind_some, e5, Option.bind_some, e6, Option.bind_some, e7, Option.bind_some, e8, Option.bind_some, e9, Option.bind_some, e10, Option.bind_some, e11, Option.bind_some, hs]
  exact h _ rfl s
theorem own_add (c y : Int32) (k : Int) (hc : c.toInt = k) (h0 : 0 ≤ k) (h1 : k ≤ 65536) (h2 : 0 ≤ y.toInt) (h3 : y.toInt < 1048576) : (c + y).toInt = k + y.toInt := by
  rw [Int32.toInt_add, hc]; exact Int.bmod_eq_of_le (by omega) (by omega)
theorem own_rem (x y : Int32) (k : Int) (hk : y.toInt = k) (hx : 0 ≤ x.toInt) (h : 0 < k) : 0 ≤ (remI x y).toInt ∧ (remI x y).toInt < k := by
  rw [own_remI x y hx (by omega), hk]
  exact ⟨Int.emod_nonneg _ (by omega), Int.emod_lt_of_pos _ h⟩
theorem own_law (x0 : Int32) (x1 : Int32) (x2 : Int32) (x3 : Int64) : f0_0 x0 x1 x2 x3 = some 1 := by
  have mk := own_mask x0 2 (by decide) 3 rfl
  have m := own_mask x1 31 (by decide) 2147483647 rfl
  have mm : 0 ≤ (x1 &&& 2147483647).toInt := by omega
  clear m
  have ra := own_rem (x1 &&& 2147483647) 128 128 rfl mm (by omega)
  have rb := own_rem (x1 &&& 2147483647) 1920 1920 rfl mm (by omega)
  have rc := own_rem (x1 &&& 2147483647) 61440 61440 rfl mm (by omega)
  have rd := own_rem (x1 &&& 2147483647) 1048576 1048576 rfl mm (by omega)
  unfold f0_0 f0_83
  generalize remI (x1 &&& 2147483647) 128 = ya at *
  generalize remI (x1 &&& 2147483647) 1920 = yb at *
  generalize remI (x1 &&& 2147483647) 61440 = yc at *
  generalize remI (x1 &&& 2147483647) 1048576 = yd at *
  refine own_if (fun c => ?_) (fun c0 => own_if (fun c => ?_) (fun c1 => own_if (fun c => own_if (fun d => ?_) (fun d => ?_)) (fun c2 => ?_)))
  · rw [c]; exact own_98 _ _ _ _ fun A hl s => own_k0 A hl _ s (by omega) (by omega)
  · rw [c]
    have e := own_add 128 yb 128 rfl (by omega) (by omega) (by omega) (by omega)
    exact own_98 _ _ _ _ fun A hl s => own_k1 A hl _ s (by omega) (by omega)
  · rw [c]
    have e := own_add 2048 yc 2048 rfl (by omega) (by omega) (by omega) (by omega)
    exact own_98 _ _ _ _ fun A hl s => own_k2 A hl _ s (by omega) (by omega)
  · rw [c]
    have e := own_add 4096 yc 4096 rfl (by omega) (by omega) (by omega) (by omega)
    exact own_98 _ _ _ _ fun A hl s => own_k2 A hl _ s (by omega) (by omega)
  · have c3 : x0 &&& 3 = 3 := Int32.toInt_inj.mp (by
      have n0 : (x0 &&& 3).toInt ≠ 0 := fun e => c0 (Int32.toInt_inj.mp e)
      have n1 : (x0 &&& 3).toInt ≠ 1 := fun e => c1 (Int32.toInt_inj.mp e)
      have n2 : (x0 &&& 3).toInt ≠ 2 := fun e => c2 (Int32.toInt_inj.mp e)
      change _ = (3 : Int); omega)
    rw [c3]
    have e := own_add 65536 yd 65536 rfl (by omega) (by omega) (by omega) (by omega)
    exact own_98 _ _ _ _ fun A hl s => own_k3 A hl _ s (by omega) (by omega)

set_option maxRecDepth 65536 in
set_option maxHeartbeats 40000000 in
theorem comes_1 {Post : Tables → Env → Array Value → State → Outcome → State → Prop} (hpost : ∀ tb e args s v u, (limb_1_1.after args s (.returned v) u = true ∧ limb_1_2.after args s (.returned v) u = true ∧ True) → FrameEnd s (.returned v) u (Jvm.fieldLocs frame_1_writes args s ++ Jvm.arrayLocs frame_1_arrays args s ++ Jvm.staticLocs frame_1_statics s) 16 128 → Post tb e args s (.returned v) u) :
    ArmFor flags0 classFile x code maxLocals ret World_1 tables_1 room_1 Calls_1 rest_1 Pre_1 Post := by
  intro l hfl _ _ p e ha hc hk s m args below hf hA hF happ hP
  obtain ⟨hcalls, hrest, hpre⟩ := hP
  obtain ⟨-, -, -, hnamed, -, -, -, hat⟩ := (Spec.applies_iff hf).mp happ
  obtain ⟨hg, hn⟩ := and_e (Cond.before_iff.mp (show (Jvm.Cond.and given_1 narrow_1).before args s = true from hpre))
  obtain ⟨hcnt, q0⟩ := and_e hg
  obtain ⟨p0, q1⟩ := and_e q0
  obtain ⟨p1, q2⟩ := and_e q1
  obtain ⟨p2, q3⟩ := and_e q2
  obtain ⟨w0, w1, w2, w3, rfl⟩ : ∃ w0 w1 w2 w3 : Value, args = #[w0, w1, w2, w3] := by
    have hs : args.size = 4 := by simpa [Cond.value, given_1] using hcnt
    obtain ⟨L⟩ := args
    match L, hs with
    | [w0, w1, w2, w3], _ => exact ⟨w0, w1, w2, w3, rfl⟩
  have hw := fun d (hd : d ∈ tables_1) => atoms_spec (ws := Jvm.Cond.code x code maxLocals ret :: tables_1) hat d (List.mem_cons_of_mem _ hd)
  obtain ⟨i0, c0⟩ := is_v p0
  obtain rfl : w0 = (.int i0) := Option.some.inj c0
  obtain ⟨i1, c1⟩ := is_v p1
  obtain rfl : w1 = (.int i1) := Option.some.inj c1
  obtain ⟨i2, c2⟩ := is_v p2
  obtain rfl : w2 = (.int i2) := Option.some.inj c2
  obtain ⟨i3, c3⟩ := isL_v q3
  obtain rfl : w3 = (.long i3) := Option.some.inj c3
  obtain ⟨n, o, h1, h2, h3, _, L, rfl, ⟨rfl, N⟩, hq⟩ := rm0 l s _ hw tables_1 i0 i1 i2 i3 s.heap s.heap.size (Nat.le_refl _) 1 (own_law i0 i1 i2 i3) p e ha hc hk s m _ below hf ((Spec.applies_iff_loose hf).mp happ).1 ⟨rfl, State.Warmed39.refl s, rfl⟩ trivial
  refine ⟨n, _, h1, h2, h3, hpost _ _ _ _ _ _ ⟨Cond.after_iff.mpr rfl, Cond.after_iff.mpr (eq_i res_at (Term.int_eval (1)) rfl), trivial⟩ ⟨hq.1, hq.2.1, (hq.2.2.sift fun y hy => Or.inr (N y hy)).mono (by decide) (by decide)⟩⟩
theorem main_1_1 : Claimed_1_1 := comes_1 fun _ _ _ _ _ _ h hF => ⟨h.1, hF⟩
theorem main_1_2 : Claimed_1_2 := comes_1 fun _ _ _ _ _ _ h hF => ⟨h.2.1, hF⟩
end Jvm.Pilot.@@N@@
namespace Jvm.Pilot.@@N@@
open Jvm Jvm.ClassFile Sem Op Lib Jvm.Free Jvm.Stand Jvm.Pilot.@@N@@.Jvm.D
/-! MADE BY PROGRAM (witnessworld.py) out of the Statement's table words and the real class files: 9 classes; the members and pool entries that the words name. The judged class is class 1, her method 2. -/
namespace start1
open Jvm.ClassFile
def u (s : String) : CpInfo := .utf8 (stringToUtf16 s)
/-- a pool by its gaps: so many unusable entries, then the entry; so many at the end -/
def gap : Nat → List CpInfo → List CpInfo
  | 0, r => r
  | n + 1, r => .unusable :: gap n r
def poolList (es : List (Nat × CpInfo)) (last : Nat) : List CpInfo := es.foldr (fun e r => gap e.1 (e.2 :: r)) (gap last [])
def pool (es : List (Nat × CpInfo)) (last : Nat) : Array CpInfo := ⟨poolList es last⟩
def fileOf (pool : Array CpInfo) (this : Nat) (attrs : Array Attribute := #[]) (ms : Array MethodInfo := #[]) (fl : Nat := 33) (sup : Nat := 0) (ifs : Array Nat := #[]) (fds : Array FieldInfo := #[]) : ClassFile where
  minorVersion := 0
  majorVersion := 65
  constantPool := pool
  accessFlags := fl
  thisClass := this
  superClass := sup
  interfaces := ifs
  fields := fds
  methods := ms
  attributes := attrs
def plain (name : String) (sup : Option ClassId) : Class where
  name := name
  kind := .ordinary
  loader := none
  accessFlags := 33
  super := sup
  interfaces := #[]
  cf := none
  fields := #[]
  methods := #[]
  instanceTypes := #[]
  staticTypes := #[]
  resolved := #[]
  callSites := []
  init := .initialized
  statics := none
  mirror := none

def pool0 : Array CpInfo := pool [(5, u "<init>"), (0, u "()V"), (1, .class_ 10), (1, u "java/lang/Object")] 113

def k0m0 : Method := { name := "<init>", desc := "()V", sig := { parameters := [], returnType := none }, accessFlags := 1, code := none }
/-- java/lang/Object -/
def k0 : Class := { plain "java/lang/Object" none with
  accessFlags := 33
  interfaces := #[]
  cf := some (fileOf pool0 8 #[] #[{ accessFlags := 1, nameIndex := 5, descriptorIndex := 6, attributes := #[] }] 33 0 #[] #[])
  fields := #[]
  methods := #[k0m0]
  instanceTypes := #[]
  staticTypes := #[]
  resolved := Array.replicate 124 none
  statics := none }

def pool1 : Array CpInfo := pool [(2, .class_ 4), (1, u "java/lang/Object"), (0, u "<init>"), (0, u "()V"), (0, .integer 2147483647), (0, .integer 61440), (0, .integer 53248), (0, .integer 65536), (0, .integer 1048576), (0, .methodref 13 14), (0, .class_ 15), (0, .nameAndType 16 17), (0, u "com/example/yarrow/yarrow/schema/SourceTextCodePointAtPinLaw"), (0, u "ascii"), (0, u "(JI)B"), (0, .methodref 19 20), (0, .class_ 21), (0, .nameAndType 22 23), (0, u "com/example/yarrow/yarrow/schema/SourceText"), (0, u "codePointAt"), (0, u "([BI)I"), (2, u "law"), (0, u "(IIIJ)Z")] 5

def k1m0 : Method := { name := "<init>", desc := "()V", sig := { parameters := [], returnType := none }, accessFlags := 2, code := none }
def k1c1 : Code := { maxStack := 4, maxLocals := 3, code := method_2_code, exceptionTable := #[], attributes := #[] }
def k1m1 : Method := { name := "ascii", desc := "(JI)B", sig := { parameters := [.long, .int], returnType := some .byte }, accessFlags := 10, code := some k1c1 }
def k1c2 : Code := { maxStack := 5, maxLocals := 10, code := code, exceptionTable := #[], attributes := #[] }
def k1m2 : Method := { name := "law", desc := "(IIIJ)Z", sig := { parameters := [.int, .int, .int, .long], returnType := some .boolean }, accessFlags := 9, code := some k1c2 }
/-- com/example/yarrow/yarrow/schema/SourceTextCodePointAtPinLaw -/
def k1 : Class := { plain "com/example/yarrow/yarrow/schema/SourceTextCodePointAtPinLaw" (some 0) with
  accessFlags := 49
  interfaces := #[]
  cf := some (fileOf pool1 13 #[] #[{ accessFlags := 2, nameIndex := 5, descriptorIndex := 6, attributes := #[] }, { accessFlags := 10, nameIndex := 16, descriptorIndex := 17, attributes := #[] }, { accessFlags := 9, nameIndex := 26, descriptorIndex := 27, attributes := #[] }] 49 2 #[] #[])
  fields := #[]
  methods := #[k1m0, k1m1, k1m2]
  instanceTypes := #[]
  staticTypes := #[]
  resolved := Array.replicate 33 none
  statics := none }

def pool2 : Array CpInfo := pool [(2, .class_ 4), (1, u "java/lang/Object"), (3, .class_ 10), (1, u "com/example/yarrow/yarrow/schema/SourceText"), (0, u "bytes"), (0, u "[B"), (2, u "length"), (0, u "I"), (2, u "ascii"), (0, u "Z"), (2, u "stop"), (0, u "Lcom/example/yarrow/yarrow/schema/Problem;"), (11, u "([BI)I"), (26, u "codePointAt"), (43, u "BYTE_ORDER_MARK"), (0, u "Ljava/lang/String;")] 35

def k2c0 : Code := { maxStack := 4, maxLocals := 3, code := prog_120_method_9_code, exceptionTable := #[], attributes := #[] }
def k2m0 : Method := { name := "codePointAt", desc := "([BI)I", sig := { parameters := [(.array .byte), .int], returnType := some .int }, accessFlags := 8, code := some k2c0 }
/-- com/example/yarrow/yarrow/schema/SourceText -/
def k2 : Class := { plain "com/example/yarrow/yarrow/schema/SourceText" (some 0) with
  accessFlags := 48
  interfaces := #[]
  cf := some (fileOf pool2 8 #[] #[{ accessFlags := 8, nameIndex := 63, descriptorIndex := 36, attributes := #[] }] 48 2 #[] #[{ accessFlags := 26, nameIndex := 107, descriptorIndex := 108, attributes := #[] }, { accessFlags := 18, nameIndex := 11, descriptorIndex := 12, attributes := #[] }, { accessFlags := 18, nameIndex := 15, descriptorIndex := 16, attributes := #[] }, { accessFlags := 18, nameIndex := 19, descriptorIndex := 20, attributes := #[] }, { accessFlags := 18, nameIndex := 23, descriptorIndex := 24, attributes := #[] }])
  fields := #[{ name := "BYTE_ORDER_MARK", type := (.object "java/lang/String"), accessFlags := 26, slot := 0, constantValue := 0 }, { name := "bytes", type := (.array .byte), accessFlags := 18, slot := 0, constantValue := 0 }, { name := "length", type := .int, accessFlags := 18, slot := 1, constantValue := 0 }, { name := "ascii", type := .boolean, accessFlags := 18, slot := 2, constantValue := 0 }, { name := "stop", type := (.object "com/example/yarrow/yarrow/schema/Problem"), accessFlags := 18, slot := 3, constantValue := 0 }]
  methods := #[k2m0]
  instanceTypes := #[(.array .byte), .int, .boolean, (.object "com/example/yarrow/yarrow/schema/Problem")]
  staticTypes := #[(.object "java/lang/String")]
  resolved := Array.replicate 144 none
  statics := none }

def pool3 : Array CpInfo := pool [(1, u "java/lang/Cloneable"), (0, .class_ 1), (0, u "java/lang/Object"), (0, .class_ 3)] 3

/-- java/lang/Cloneable -/
def k3 : Class := { plain "java/lang/Cloneable" (some 0) with
  accessFlags := 1537
  interfaces := #[]
  cf := some (fileOf pool3 2 #[] #[] 1537 4 #[] #[])
  fields := #[]
  methods := #[]
  instanceTypes := #[]
  staticTypes := #[]
  resolved := Array.replicate 8 none
  statics := none }

def pool4 : Array CpInfo := pool [(1, u "java/io/Serializable"), (0, .class_ 1), (0, u "java/lang/Object"), (0, .class_ 3)] 3

/-- java/io/Serializable -/
def k4 : Class := { plain "java/io/Serializable" (some 0) with
  accessFlags := 1537
  interfaces := #[]
  cf := some (fileOf pool4 2 #[] #[] 1537 4 #[] #[])
  fields := #[]
  methods := #[]
  instanceTypes := #[]
  staticTypes := #[]
  resolved := Array.replicate 8 none
  statics := none }

/-- the primitive byte -/
def k5 : Class := { plain "byte" none with kind := .primitive 'B', accessFlags := 0x411 }
/-- [B -/
def k6 : Class := { plain "[B" (some 0) with kind := .array 5 .byte, interfaces := #[3, 4], accessFlags := 1041 }

/-- the primitive int -/
def k7 : Class := { plain "int" none with kind := .primitive 'I', accessFlags := 0x411 }
/-- [I -/
def k8 : Class := { plain "[I" (some 0) with kind := .array 7 .int, interfaces := #[3, 4], accessFlags := 1041 }

def heap : Heap := #[]
def classes : Array Class := #[k0, k1, k2, k3, k4, k5, k6, k7, k8]
def interned : List (Array UInt16 × Addr) := []
def slotsUsed : Nat := 0
def theMethod : MethodId := ⟨1, 2⟩
def args0 : Array Value := #[.int 5, .int 5, .int 5, .long 5]
def aboutOver (below : List Frame) : State where
  vm := { classes := classes, interned := interned.toArray }
  heap := heap
  slotsUsed := slotsUsed
  threads := #[{ frames := .invoking theMethod args0 :: below }]
def below0 : List Frame := [.native { method := ⟨0, 0⟩, args := #[] }]
def about1 : State := aboutOver below0
def p0 : Program := .bare "" "" ""
def e0 : Env := launch0.env 0 0 0
theorem w_frames : about1.frames = Frame.invoking theMethod args0 :: below0 := rfl
set_option maxRecDepth 65536 in
theorem w_args : argsFit about1.vm theMethod args0 = true := by decide +kernel
set_option maxRecDepth 65536 in
theorem w_heap : heapFits about1 = true := by decide +kernel
set_option maxRecDepth 65536 in
theorem w_runnable : about1.curStatus? = some .runnable := by decide +kernel
set_option maxRecDepth 65536 in
theorem w_alone : about1.alone = true := by decide +kernel
set_option maxRecDepth 65536 in
theorem w_named : about1.methodNamed? x = some theMethod := by decide +kernel
set_option maxRecDepth 65536 in
theorem w_hears : about1.hears theMethod below0 = true := by decide +kernel
set_option maxRecDepth 65536 in
theorem w_ripe : about1.ripe theMethod args0 below0 = true := by decide +kernel
theorem w_running : about1.status = .running := rfl
set_option maxRecDepth 65536 in
theorem w_room : about1.hasRoom e0.platform room_1 = true :=
  launch0.hasRoom_least _ room_1 (by decide +kernel) (by decide +kernel) (by decide +kernel) (by decide +kernel) (by decide +kernel) (by decide +kernel)
theorem allAtoms_all (ts : List Jvm.Cond) (a : Array Jvm.Value) (st : Jvm.State) : (allAtoms ts).before a st = ts.all (fun c => c.before a st) := by
  induction ts with
  | nil => rfl
  | cons c t ih =>
    show (Jvm.Cond.and c (allAtoms t)).before a st = _
    rw [Jvm.Cond.before_and, ih, List.all_cons]
def words1 : List Jvm.Cond := Jvm.Cond.code x code maxLocals ret :: tables_1
/-- a 'code' word, met by the world's own term for the bytes: nothing is compared byte by byte -/
theorem code_word {y : MethodName} {bytes : ByteArray} {mx : Nat} {rt : Option FieldType} {a : Array Value} {s : State} {m : MethodId} {meth : Method} {c : Code} (h1 : s.methodNamed? y = some m) (h2 : s.vm.method? m = some meth) (h3 : meth.code = some c) (h4 : c.code = bytes)
    (h5 : (c.maxLocals == mx && c.exceptionTable.isEmpty && decide (c.maxStack ≤ mostOperands) && decide (meth.sig.returnType = rt) && !meth.locks && decide (parseMethodDescriptor y.desc = some meth.sig)) = true) : (Jvm.Cond.code y bytes mx rt).before a s = true := by
  simp only [Bool.and_eq_true, beq_iff_eq, Bool.not_eq_true', decide_eq_true_eq] at h5
  obtain ⟨⟨⟨⟨⟨g1, g2⟩, g3⟩, g4⟩, g5⟩, g6⟩ := h5
  simp [Cond.before, Cond.holds, Cond.value, h1, h2, h3, h4, g1, g2, g3, g4, g5, g6]
def isCode : Jvm.Cond → Bool
  | .code _ _ _ _ => true
  | _ => false
theorem all_split {L : List Jvm.Cond} {P : Jvm.Cond → Bool} (h1 : L.all (fun c => isCode c || P c) = true) (h2 : ∀ c ∈ L.filter isCode, P c = true) : L.all P = true := by
  refine List.all_eq_true.mpr fun c hc => ?_
  have h := List.all_eq_true.mp h1 c hc
  rcases Bool.eq_false_or_eq_true (isCode c) with hi | hi
  · exact h2 c (List.mem_filter.mpr ⟨hc, hi⟩)
  · simpa [hi] using h
set_option maxRecDepth 65536 in
theorem w_c0 : (Jvm.Cond.code x code maxLocals ret).before args0 about1 = true := code_word (m := ⟨1, 2⟩) (meth := k1m2) (c := k1c2) (by decide +kernel) rfl rfl rfl (by decide +kernel)
set_option maxRecDepth 65536 in
theorem w_c1 : (Jvm.Cond.code ({ cls := "com/example/yarrow/yarrow/schema/SourceTextCodePointAtPinLaw", name := "ascii", desc := "(JI)B" } : Jvm.MethodName) method_2_code (3 : Nat) (Option.some Jvm.ClassFile.FieldType.byte)).before args0 about1 = true := code_word (m := ⟨1, 1⟩) (meth := k1m1) (c := k1c1) (by decide +kernel) rfl rfl rfl (by decide +kernel)
set_option maxRecDepth 65536 in
theorem w_c2 : (Jvm.Cond.code ({ cls := "com/example/yarrow/yarrow/schema/SourceText", name := "codePointAt", desc := "([BI)I" } : Jvm.MethodName) prog_120_method_9_code (3 : Nat) (Option.some Jvm.ClassFile.FieldType.int)).before args0 about1 = true := code_word (m := ⟨2, 0⟩) (meth := k2m0) (c := k2c0) (by decide +kernel) rfl rfl rfl (by decide +kernel)
def codes1 : List Jvm.Cond := [Jvm.Cond.code x code maxLocals ret, Jvm.Cond.code ({ cls := "com/example/yarrow/yarrow/schema/SourceTextCodePointAtPinLaw", name := "ascii", desc := "(JI)B" } : Jvm.MethodName) method_2_code (3 : Nat) (Option.some Jvm.ClassFile.FieldType.byte), Jvm.Cond.code ({ cls := "com/example/yarrow/yarrow/schema/SourceText", name := "codePointAt", desc := "([BI)I" } : Jvm.MethodName) prog_120_method_9_code (3 : Nat) (Option.some Jvm.ClassFile.FieldType.int)]
set_option maxRecDepth 65536 in
theorem codes_eq : words1.filter isCode = codes1 := rfl
theorem w_codes : ∀ c ∈ words1.filter isCode, c.before args0 about1 = true := by
  rw [codes_eq]
  intro c hc
  simp only [codes1, List.mem_cons, List.not_mem_nil, or_false] at hc
  rcases hc with rfl | rfl | rfl
  · exact w_c0
  · exact w_c1
  · exact w_c2
set_option maxRecDepth 65536 in
theorem w_t1 : words1.all (fun c => isCode c || c.before args0 about1) = true := by decide +kernel
theorem w_tables : (allAtoms (Jvm.Cond.code x code maxLocals ret :: tables_1)).before args0 about1 = true := by
  rw [allAtoms_all]
  show words1.all (fun c => c.before args0 about1) = true
  refine all_split ?_ w_codes
  rw [w_t1]
set_option maxRecDepth 65536 in
theorem w_case : (Jvm.Cond.and given_1 narrow_1).before args0 about1 = true := by decide +kernel
theorem w_applies : (headSpec (Jvm.Cond.code x code maxLocals ret :: tables_1) room_1).applies x e0.platform about1 = true :=
  (Spec.applies_iff w_frames).mpr ⟨w_running, w_runnable, w_alone, w_named, w_hears, w_ripe, w_room, w_tables⟩
theorem atStart : AtStart classFile x code maxLocals ret World_1 tables_1 room_1 Calls_1 rest_1 Pre_1 launch0 p0 e0 about1 theMethod args0 below0 :=
  ⟨lists_1, trivial, launch0.admits_env _ _ _, launch0.least_env, fairChoices_fair.cas, fairChoices_fair.clock, w_frames, w_args, w_heap, w_applies, trivial, trivial, w_case⟩
end start1
theorem witness_1 : WitnessClaimed_1 := ⟨start1.p0, start1.e0, start1.about1, start1.theMethod, start1.args0, start1.below0, start1.atStart⟩
end Jvm.Pilot.@@N@@
