import JvmDerived
import JvmDerived.Pilot.@@N@@Statement
import JvmDerived.Pilot.@@N@@Code
set_option linter.unusedVariables false
set_option linter.unusedSimpArgs false
namespace Jvm.Pilot.@@N@@
open Jvm Jvm.ClassFile Sem Op Lib Jvm.Free Jvm.Stand Jvm.LawKit Jvm.RoadKit Bundle Jvm.Pilot.@@N@@.Jvm.D

/-- from here the invocation ends, and what it leaves meets Q -/
def Go (p : Program) (e : Env) (below : List Frame) (s : State) (mc ms : Nat) (Q : Option Value → Heap → List Loc → Prop) (m : MethodId) (T : State) (pc : Nat) (Ls : Array Slot) (st : List Value) : Prop :=
  ∃ s₂ o, Steps p.tables e below (T.setTop (mkF m pc Ls st)) s₂ ∧ s₂.status = .running ∧ Ended s₂ below o ∧ ∃ v L, o = .returned v ∧ Q v s₂.heap L ∧ FrameEnd s o s₂ L mc ms
section Law
variable {p : Program} {l : Launch} {e : Env} {R : Room} {s : State} {m : MethodId} {args : Array Value} {below : List Frame} {meth : Method} {c : Code} {T T' : State} {locs : List Loc} {cells slots : Nat} {code : ByteArray} {Q : Option Value → Heap → List Loc → Prop} {mc ms : Nat} {pc pc' : Nat} {Ls Ls' : Array Slot} {st st' rest : List Value}
theorem Go.of (k : Go p e below s mc ms Q m T' pc' Ls' st') (h : ∀ t, Steps p.tables e below (T'.setTop (mkF m pc' Ls' st')) t → Steps p.tables e below (T.setTop (mkF m pc Ls st)) t) : Go p e below s mc ms Q m T pc Ls st := by
  obtain ⟨a, o, h1, h2⟩ := k
  exact ⟨a, o, h _ h1, h2⟩
def remI (x y : Int32) : Int32 := x - (x / y) * y
def remJ (x y : Int64) : Int64 := x - (x / y) * y
def i2bF (x : Int32) : Int32 := x.toInt8.toInt32
def i2cF (x : Int32) : Int32 := x.toUInt32.toUInt16.toUInt32.toInt32
def i2sF (x : Int32) : Int32 := x.toInt16.toInt32
def shlI (x y : Int32) : Int32 := x <<< (y &&& 31)
def shrI (x y : Int32) : Int32 := x >>> (y &&& 31)
def shlJ (x : Int64) (y : Int32) : Int64 := x <<< (y.toInt64 &&& 63)
def shrJ (x : Int64) (y : Int32) : Int64 := x >>> (y.toInt64 &&& 63)

theorem Go.iload (X : Stand p l e R s m args below meth c T locs cells slots) (hx : p.tables.exec = Jvm.exec) (hby : c.code = code) {k : Nat} {v : Int32} (hd : decode code pc = .ok (.iload k, 2)) (hpc : pc + 2 = pc') (hl : Ls[k]? = some (.val (.int v))) (h : Go p e below s mc ms Q m T pc' Ls (.int v :: st)) : Go p e below s mc ms Q m T pc Ls (st) := by
  subst hpc; exact h.of fun _ kk => XS.iload (g := mkF m pc Ls (st)) X.here hx rfl (hb hby hd) hl kk
theorem Go.iloadN (X : Stand p l e R s m args below meth c T locs cells slots) (hx : p.tables.exec = Jvm.exec) (hby : c.code = code) {k : Fin 4} {v : Int32} (hd : decode code pc = .ok (.iload_n k, 1)) (hpc : pc + 1 = pc') (hl : Ls[k.val]? = some (.val (.int v))) (h : Go p e below s mc ms Q m T pc' Ls (.int v :: st)) : Go p e below s mc ms Q m T pc Ls (st) := by
  subst hpc; exact h.of fun _ kk => XS.iloadN (g := mkF m pc Ls (st)) X.here hx rfl (hb hby hd) hl kk
theorem Go.lload (X : Stand p l e R s m args below meth c T locs cells slots) (hx : p.tables.exec = Jvm.exec) (hby : c.code = code) {k : Nat} {v : Int64} (hd : decode code pc = .ok (.lload k, 2)) (hpc : pc + 2 = pc') (hl : Ls[k]? = some (.val (.long v))) (h : Go p e below s mc ms Q m T pc' Ls (.long v :: st)) : Go p e below s mc ms Q m T pc Ls (st) := by
  subst hpc; exact h.of fun _ kk => XT.lload (g := mkF m pc Ls (st)) X.here hx rfl (hb hby hd) hl kk
theorem Go.lloadN (X : Stand p l e R s m args below meth c T locs cells slots) (hx : p.tables.exec = Jvm.exec) (hby : c.code = code) {k : Fin 4} {v : Int64} (hd : decode code pc = .ok (.lload_n k, 1)) (hpc : pc + 1 = pc') (hl : Ls[k.val]? = some (.val (.long v))) (h : Go p e below s mc ms Q m T pc' Ls (.long v :: st)) : Go p e below s mc ms Q m T pc Ls (st) := by
  subst hpc; exact h.of fun _ kk => XT.lloadN (g := mkF m pc Ls (st)) X.here hx rfl (hb hby hd) hl kk
theorem Go.aload (X : Stand p l e R s m args below meth c T locs cells slots) (hx : p.tables.exec = Jvm.exec) (hby : c.code = code) {k : Nat} {v : Value} (hd : decode code pc = .ok (.aload k, 2)) (hpc : pc + 2 = pc') (hl : Ls[k]? = some (.val v)) (hv : v.isRef = true) (h : Go p e below s mc ms Q m T pc' Ls (v :: st)) : Go p e below s mc ms Q m T pc Ls (st) := by
  subst hpc; exact h.of fun _ kk => XS.aload (g := mkF m pc Ls (st)) X.here hx rfl (hb hby hd) hl hv kk
theorem Go.aloadN (X : Stand p l e R s m args below meth c T locs cells slots) (hx : p.tables.exec = Jvm.exec) (hby : c.code = code) {k : Fin 4} {v : Value} (hd : decode code pc = .ok (.aload_n k, 1)) (hpc : pc + 1 = pc') (hl : Ls[k.val]? = some (.val v)) (hv : v.isRef = true) (h : Go p e below s mc ms Q m T pc' Ls (v :: st)) : Go p e below s mc ms Q m T pc Ls (st) := by
  subst hpc; exact h.of fun _ kk => XS.aloadN (g := mkF m pc Ls (st)) X.here hx rfl (hb hby hd) hl hv kk
theorem Go.istore (X : Stand p l e R s m args below meth c T locs cells slots) (hx : p.tables.exec = Jvm.exec) (hby : c.code = code) {k : Nat} {v : Int32} (hd : decode code pc = .ok (.istore k, 2)) (hpc : pc + 2 = pc') (hl : storeLocals Ls k (.int v) = some Ls') (h : Go p e below s mc ms Q m T pc' Ls' (st)) : Go p e below s mc ms Q m T pc Ls (.int v :: st) := by
  subst hpc; exact h.of fun _ kk => XS.istore (g := mkF m pc Ls (.int v :: st)) X.here hx rfl (hb hby hd) rfl hl kk
theorem Go.istoreN (X : Stand p l e R s m args below meth c T locs cells slots) (hx : p.tables.exec = Jvm.exec) (hby : c.code = code) {k : Fin 4} {v : Int32} (hd : decode code pc = .ok (.istore_n k, 1)) (hpc : pc + 1 = pc') (hl : storeLocals Ls k.val (.int v) = some Ls') (h : Go p e below s mc ms Q m T pc' Ls' (st)) : Go p e below s mc ms Q m T pc Ls (.int v :: st) := by
  subst hpc; exact h.of fun _ kk => XS.istoreN (g := mkF m pc Ls (.int v :: st)) X.here hx rfl (hb hby hd) rfl hl kk
theorem Go.lstore (X : Stand p l e R s m args below meth c T locs cells slots) (hx : p.tables.exec = Jvm.exec) (hby : c.code = code) {k : Nat} {v : Int64} (hd : decode code pc = .ok (.lstore k, 2)) (hpc : pc + 2 = pc') (hl : storeLocals Ls k (.long v) = some Ls') (h : Go p e below s mc ms Q m T pc' Ls' (st)) : Go p e below s mc ms Q m T pc Ls (.long v :: st) := by
  subst hpc; exact h.of fun _ kk => XT.lstore (g := mkF m pc Ls (.long v :: st)) X.here hx rfl (hb hby hd) rfl hl kk
theorem Go.lstoreN (X : Stand p l e R s m args below meth c T locs cells slots) (hx : p.tables.exec = Jvm.exec) (hby : c.code = code) {k : Fin 4} {v : Int64} (hd : decode code pc = .ok (.lstore_n k, 1)) (hpc : pc + 1 = pc') (hl : storeLocals Ls k.val (.long v) = some Ls') (h : Go p e below s mc ms Q m T pc' Ls' (st)) : Go p e below s mc ms Q m T pc Ls (.long v :: st) := by
  subst hpc; exact h.of fun _ kk => XT.lstoreN (g := mkF m pc Ls (.long v :: st)) X.here hx rfl (hb hby hd) rfl hl kk
theorem Go.astore (X : Stand p l e R s m args below meth c T locs cells slots) (hx : p.tables.exec = Jvm.exec) (hby : c.code = code) {k : Nat} {v : Value} (hd : decode code pc = .ok (.astore k, 2)) (hpc : pc + 2 = pc') (hv : v.isRef = true) (hl : storeLocals Ls k v = some Ls') (h : Go p e below s mc ms Q m T pc' Ls' (st)) : Go p e below s mc ms Q m T pc Ls (v :: st) := by
  subst hpc; exact h.of fun _ kk => XS.astore (g := mkF m pc Ls (v :: st)) X.here hx rfl (hb hby hd) rfl hv hl kk
theorem Go.astoreN (X : Stand p l e R s m args below meth c T locs cells slots) (hx : p.tables.exec = Jvm.exec) (hby : c.code = code) {k : Fin 4} {v : Value} (hd : decode code pc = .ok (.astore_n k, 1)) (hpc : pc + 1 = pc') (hv : v.isRef = true) (hl : storeLocals Ls k.val v = some Ls') (h : Go p e below s mc ms Q m T pc' Ls' (st)) : Go p e below s mc ms Q m T pc Ls (v :: st) := by
  subst hpc; exact h.of fun _ kk => XS.astoreN (g := mkF m pc Ls (v :: st)) X.here hx rfl (hb hby hd) rfl hv hl kk
theorem Go.iconst (X : Stand p l e R s m args below meth c T locs cells slots) (hx : p.tables.exec = Jvm.exec) (hby : c.code = code) {i : Int} {v : Int32} (hd : decode code pc = .ok (.iconst i, 1)) (hpc : pc + 1 = pc') (hv : Int32.ofInt i = v) (h : Go p e below s mc ms Q m T pc' Ls (.int v :: st)) : Go p e below s mc ms Q m T pc Ls (st) := by
  subst hpc; exact h.of fun _ kk => XT.iconstV (g := mkF m pc Ls (st)) X.here hx rfl v (hb hby hd) hv kk
theorem Go.bipush (X : Stand p l e R s m args below meth c T locs cells slots) (hx : p.tables.exec = Jvm.exec) (hby : c.code = code) {i : Int} {v : Int32} (hd : decode code pc = .ok (.bipush i, 2)) (hpc : pc + 2 = pc') (hv : (Int8.ofInt i).toInt32 = v) (h : Go p e below s mc ms Q m T pc' Ls (.int v :: st)) : Go p e below s mc ms Q m T pc Ls (st) := by
  subst hpc; exact h.of fun _ kk => XT.bipushV (g := mkF m pc Ls (st)) X.here hx rfl v (hb hby hd) hv kk
theorem Go.sipush (X : Stand p l e R s m args below meth c T locs cells slots) (hx : p.tables.exec = Jvm.exec) (hby : c.code = code) {i : Int} {v : Int32} (hd : decode code pc = .ok (.sipush i, 3)) (hpc : pc + 3 = pc') (hv : (Int16.ofInt i).toInt32 = v) (h : Go p e below s mc ms Q m T pc' Ls (.int v :: st)) : Go p e below s mc ms Q m T pc Ls (st) := by
  subst hpc; exact h.of fun _ kk => XT.sipushV (g := mkF m pc Ls (st)) X.here hx rfl v (hb hby hd) hv kk
theorem Go.lconst (X : Stand p l e R s m args below meth c T locs cells slots) (hx : p.tables.exec = Jvm.exec) (hby : c.code = code) {k : Fin 2} {v : Int64} (hd : decode code pc = .ok (.lconst k, 1)) (hpc : pc + 1 = pc') (hv : Int64.ofNat k = v) (h : Go p e below s mc ms Q m T pc' Ls (.long v :: st)) : Go p e below s mc ms Q m T pc Ls (st) := by
  subst hpc; exact h.of fun _ kk => XT.lconstV (g := mkF m pc Ls (st)) X.here hx rfl v (hb hby hd) hv kk
theorem Go.aconstNull (X : Stand p l e R s m args below meth c T locs cells slots) (hx : p.tables.exec = Jvm.exec) (hby : c.code = code) (hd : decode code pc = .ok (.aconst_null, 1)) (hpc : pc + 1 = pc') (h : Go p e below s mc ms Q m T pc' Ls (.null :: st)) : Go p e below s mc ms Q m T pc Ls (st) := by
  subst hpc; exact h.of fun _ kk => XS.aconstNull (g := mkF m pc Ls (st)) X.here hx rfl (hb hby hd) kk
theorem Go.ldcI (X : Stand p l e R s m args below meth c T locs cells slots) (hx : p.tables.exec = Jvm.exec) (hby : c.code = code) {Z : State} {a0 : Array Value} (hZ : Z.Warmed39 s.vm) {own : String} {k : Nat} {v : Int32} (hown : s.vm.findClass own = some m.cls) (w : (Cond.constant own k v).before a0 Z = true) (hd : decode code pc = .ok (.ldc k, 2)) (hpc : pc + 2 = pc') (h : Go p e below s mc ms Q m T pc' Ls (.int v :: st)) : Go p e below s mc ms Q m T pc Ls (st) := by
  subst hpc; exact h.of fun _ kk => Stand.ldcI (g := mkF m pc Ls (st)) X hx hown (mvT hZ w) rfl (hb hby hd) kk
theorem Go.ldcJ (X : Stand p l e R s m args below meth c T locs cells slots) (hx : p.tables.exec = Jvm.exec) (hby : c.code = code) {Z : State} {a0 : Array Value} (hZ : Z.Warmed39 s.vm) {own : String} {k : Nat} {v : Int64} (hown : s.vm.findClass own = some m.cls) (w : (Cond.constantLong own k v).before a0 Z = true) (hd : decode code pc = .ok (.ldc2_w k, 3)) (hpc : pc + 3 = pc') (h : Go p e below s mc ms Q m T pc' Ls (.long v :: st)) : Go p e below s mc ms Q m T pc Ls (st) := by
  subst hpc; exact h.of fun _ kk => Stand.ldc2J (g := mkF m pc Ls (st)) X hx hown (mvT hZ w) rfl (hb hby hd) kk
theorem Go.iadd (X : Stand p l e R s m args below meth c T locs cells slots) (hx : p.tables.exec = Jvm.exec) (hby : c.code = code) {x y : Int32} (hd : decode code pc = .ok (.iadd, 1)) (hpc : pc + 1 = pc') (h : Go p e below s mc ms Q m T pc' Ls (.int (x + y) :: st)) : Go p e below s mc ms Q m T pc Ls (.int y :: .int x :: st) := by
  subst hpc; exact h.of fun _ kk => XS.iadd (g := mkF m pc Ls (.int y :: .int x :: st)) X.here hx rfl (hb hby hd) rfl kk
theorem Go.isub (X : Stand p l e R s m args below meth c T locs cells slots) (hx : p.tables.exec = Jvm.exec) (hby : c.code = code) {x y : Int32} (hd : decode code pc = .ok (.isub, 1)) (hpc : pc + 1 = pc') (h : Go p e below s mc ms Q m T pc' Ls (.int (x - y) :: st)) : Go p e below s mc ms Q m T pc Ls (.int y :: .int x :: st) := by
  subst hpc; exact h.of fun _ kk => XS.isub (g := mkF m pc Ls (.int y :: .int x :: st)) X.here hx rfl (hb hby hd) rfl kk
theorem Go.imul (X : Stand p l e R s m args below meth c T locs cells slots) (hx : p.tables.exec = Jvm.exec) (hby : c.code = code) {x y : Int32} (hd : decode code pc = .ok (.imul, 1)) (hpc : pc + 1 = pc') (h : Go p e below s mc ms Q m T pc' Ls (.int (x * y) :: st)) : Go p e below s mc ms Q m T pc Ls (.int y :: .int x :: st) := by
  subst hpc; exact h.of fun _ kk => XS.imul (g := mkF m pc Ls (.int y :: .int x :: st)) X.here hx rfl (hb hby hd) rfl kk
theorem Go.iand (X : Stand p l e R s m args below meth c T locs cells slots) (hx : p.tables.exec = Jvm.exec) (hby : c.code = code) {x y : Int32} (hd : decode code pc = .ok (.iand, 1)) (hpc : pc + 1 = pc') (h : Go p e below s mc ms Q m T pc' Ls (.int (x &&& y) :: st)) : Go p e below s mc ms Q m T pc Ls (.int y :: .int x :: st) := by
  subst hpc; exact h.of fun _ kk => XS.iand (g := mkF m pc Ls (.int y :: .int x :: st)) X.here hx rfl (hb hby hd) rfl kk
theorem Go.ior (X : Stand p l e R s m args below meth c T locs cells slots) (hx : p.tables.exec = Jvm.exec) (hby : c.code = code) {x y : Int32} (hd : decode code pc = .ok (.ior, 1)) (hpc : pc + 1 = pc') (h : Go p e below s mc ms Q m T pc' Ls (.int (x ||| y) :: st)) : Go p e below s mc ms Q m T pc Ls (.int y :: .int x :: st) := by
  subst hpc; exact h.of fun _ kk => XT.ior (g := mkF m pc Ls (.int y :: .int x :: st)) X.here hx rfl (hb hby hd) rfl kk
theorem Go.ixor (X : Stand p l e R s m args below meth c T locs cells slots) (hx : p.tables.exec = Jvm.exec) (hby : c.code = code) {x y : Int32} (hd : decode code pc = .ok (.ixor, 1)) (hpc : pc + 1 = pc') (h : Go p e below s mc ms Q m T pc' Ls (.int (x ^^^ y) :: st)) : Go p e below s mc ms Q m T pc Ls (.int y :: .int x :: st) := by
  subst hpc; exact h.of fun _ kk => XT.ixor (g := mkF m pc Ls (.int y :: .int x :: st)) X.here hx rfl (hb hby hd) rfl kk
theorem Go.ishl (X : Stand p l e R s m args below meth c T locs cells slots) (hx : p.tables.exec = Jvm.exec) (hby : c.code = code) {x y : Int32} (hd : decode code pc = .ok (.ishl, 1)) (hpc : pc + 1 = pc') (h : Go p e below s mc ms Q m T pc' Ls (.int (shlI x y) :: st)) : Go p e below s mc ms Q m T pc Ls (.int y :: .int x :: st) := by
  subst hpc; exact h.of fun _ kk => XT.ishl (g := mkF m pc Ls (.int y :: .int x :: st)) X.here hx rfl (hb hby hd) rfl kk
theorem Go.ishr (X : Stand p l e R s m args below meth c T locs cells slots) (hx : p.tables.exec = Jvm.exec) (hby : c.code = code) {x y : Int32} (hd : decode code pc = .ok (.ishr, 1)) (hpc : pc + 1 = pc') (h : Go p e below s mc ms Q m T pc' Ls (.int (shrI x y) :: st)) : Go p e below s mc ms Q m T pc Ls (.int y :: .int x :: st) := by
  subst hpc; exact h.of fun _ kk => XT.ishr (g := mkF m pc Ls (.int y :: .int x :: st)) X.here hx rfl (hb hby hd) rfl kk
theorem Go.iushr (X : Stand p l e R s m args below meth c T locs cells slots) (hx : p.tables.exec = Jvm.exec) (hby : c.code = code) {x y : Int32} (hd : decode code pc = .ok (.iushr, 1)) (hpc : pc + 1 = pc') (h : Go p e below s mc ms Q m T pc' Ls (.int (XT.ushr x y) :: st)) : Go p e below s mc ms Q m T pc Ls (.int y :: .int x :: st) := by
  subst hpc; exact h.of fun _ kk => XT.iushr (g := mkF m pc Ls (.int y :: .int x :: st)) X.here hx rfl (hb hby hd) rfl kk
theorem Go.idiv (X : Stand p l e R s m args below meth c T locs cells slots) (hx : p.tables.exec = Jvm.exec) (hby : c.code = code) {x y : Int32} (hd : decode code pc = .ok (.idiv, 1)) (hpc : pc + 1 = pc') (hy : y ≠ 0) (h : Go p e below s mc ms Q m T pc' Ls (.int (x / y) :: st)) : Go p e below s mc ms Q m T pc Ls (.int y :: .int x :: st) := by
  subst hpc; exact h.of fun _ kk => XS.idiv (g := mkF m pc Ls (.int y :: .int x :: st)) X.here hx rfl (hb hby hd) rfl hy kk
theorem Go.irem (X : Stand p l e R s m args below meth c T locs cells slots) (hx : p.tables.exec = Jvm.exec) (hby : c.code = code) {x y : Int32} (hd : decode code pc = .ok (.irem, 1)) (hpc : pc + 1 = pc') (hy : y ≠ 0) (h : Go p e below s mc ms Q m T pc' Ls (.int (remI x y) :: st)) : Go p e below s mc ms Q m T pc Ls (.int y :: .int x :: st) := by
  subst hpc; exact h.of fun _ kk => XS.irem (g := mkF m pc Ls (.int y :: .int x :: st)) X.here hx rfl (hb hby hd) rfl hy kk
theorem Go.ladd (X : Stand p l e R s m args below meth c T locs cells slots) (hx : p.tables.exec = Jvm.exec) (hby : c.code = code) {x y : Int64} (hd : decode code pc = .ok (.ladd, 1)) (hpc : pc + 1 = pc') (h : Go p e below s mc ms Q m T pc' Ls (.long (x + y) :: st)) : Go p e below s mc ms Q m T pc Ls (.long y :: .long x :: st) := by
  subst hpc; exact h.of fun _ kk => XT.ladd (g := mkF m pc Ls (.long y :: .long x :: st)) X.here hx rfl (hb hby hd) rfl kk
theorem Go.lsub (X : Stand p l e R s m args below meth c T locs cells slots) (hx : p.tables.exec = Jvm.exec) (hby : c.code = code) {x y : Int64} (hd : decode code pc = .ok (.lsub, 1)) (hpc : pc + 1 = pc') (h : Go p e below s mc ms Q m T pc' Ls (.long (x - y) :: st)) : Go p e below s mc ms Q m T pc Ls (.long y :: .long x :: st) := by
  subst hpc; exact h.of fun _ kk => XT.lsub (g := mkF m pc Ls (.long y :: .long x :: st)) X.here hx rfl (hb hby hd) rfl kk
theorem Go.lmul (X : Stand p l e R s m args below meth c T locs cells slots) (hx : p.tables.exec = Jvm.exec) (hby : c.code = code) {x y : Int64} (hd : decode code pc = .ok (.lmul, 1)) (hpc : pc + 1 = pc') (h : Go p e below s mc ms Q m T pc' Ls (.long (x * y) :: st)) : Go p e below s mc ms Q m T pc Ls (.long y :: .long x :: st) := by
  subst hpc; exact h.of fun _ kk => XT.lmul (g := mkF m pc Ls (.long y :: .long x :: st)) X.here hx rfl (hb hby hd) rfl kk
theorem Go.land (X : Stand p l e R s m args below meth c T locs cells slots) (hx : p.tables.exec = Jvm.exec) (hby : c.code = code) {x y : Int64} (hd : decode code pc = .ok (.land, 1)) (hpc : pc + 1 = pc') (h : Go p e below s mc ms Q m T pc' Ls (.long (x &&& y) :: st)) : Go p e below s mc ms Q m T pc Ls (.long y :: .long x :: st) := by
  subst hpc; exact h.of fun _ kk => XT.land (g := mkF m pc Ls (.long y :: .long x :: st)) X.here hx rfl (hb hby hd) rfl kk
theorem Go.lor (X : Stand p l e R s m args below meth c T locs cells slots) (hx : p.tables.exec = Jvm.exec) (hby : c.code = code) {x y : Int64} (hd : decode code pc = .ok (.lor, 1)) (hpc : pc + 1 = pc') (h : Go p e below s mc ms Q m T pc' Ls (.long (x ||| y) :: st)) : Go p e below s mc ms Q m T pc Ls (.long y :: .long x :: st) := by
  subst hpc; exact h.of fun _ kk => XT.lor (g := mkF m pc Ls (.long y :: .long x :: st)) X.here hx rfl (hb hby hd) rfl kk
theorem Go.lxor (X : Stand p l e R s m args below meth c T locs cells slots) (hx : p.tables.exec = Jvm.exec) (hby : c.code = code) {x y : Int64} (hd : decode code pc = .ok (.lxor, 1)) (hpc : pc + 1 = pc') (h : Go p e below s mc ms Q m T pc' Ls (.long (x ^^^ y) :: st)) : Go p e below s mc ms Q m T pc Ls (.long y :: .long x :: st) := by
  subst hpc; exact h.of fun _ kk => XT.lxor (g := mkF m pc Ls (.long y :: .long x :: st)) X.here hx rfl (hb hby hd) rfl kk
theorem Go.ldiv (X : Stand p l e R s m args below meth c T locs cells slots) (hx : p.tables.exec = Jvm.exec) (hby : c.code = code) {x y : Int64} (hd : decode code pc = .ok (.ldiv, 1)) (hpc : pc + 1 = pc') (hy : y ≠ 0) (h : Go p e below s mc ms Q m T pc' Ls (.long (x / y) :: st)) : Go p e below s mc ms Q m T pc Ls (.long y :: .long x :: st) := by
  subst hpc; exact h.of fun _ kk => XT.ldiv (g := mkF m pc Ls (.long y :: .long x :: st)) X.here hx rfl (hb hby hd) rfl hy kk
theorem Go.lrem (X : Stand p l e R s m args below meth c T locs cells slots) (hx : p.tables.exec = Jvm.exec) (hby : c.code = code) {x y : Int64} (hd : decode code pc = .ok (.lrem, 1)) (hpc : pc + 1 = pc') (hy : y ≠ 0) (h : Go p e below s mc ms Q m T pc' Ls (.long (remJ x y) :: st)) : Go p e below s mc ms Q m T pc Ls (.long y :: .long x :: st) := by
  subst hpc; exact h.of fun _ kk => XT.lrem (g := mkF m pc Ls (.long y :: .long x :: st)) X.here hx rfl (hb hby hd) rfl hy kk
theorem Go.lushr (X : Stand p l e R s m args below meth c T locs cells slots) (hx : p.tables.exec = Jvm.exec) (hby : c.code = code) {x : Int64} {y : Int32} (hd : decode code pc = .ok (.lushr, 1)) (hpc : pc + 1 = pc') (h : Go p e below s mc ms Q m T pc' Ls (.long (XT.ushrL x y) :: st)) : Go p e below s mc ms Q m T pc Ls (.int y :: .long x :: st) := by
  subst hpc; exact h.of fun _ kk => XT.lushr (g := mkF m pc Ls (.int y :: .long x :: st)) X.here hx rfl (hb hby hd) rfl kk
theorem Go.lshl (X : Stand p l e R s m args below meth c T locs cells slots) (hx : p.tables.exec = Jvm.exec) (hby : c.code = code) {x : Int64} {y : Int32} {z : Int64} (hd : decode code pc = .ok (.lshl, 1)) (hpc : pc + 1 = pc') (hz : x <<< (y.toInt64 &&& 63) = z) (h : Go p e below s mc ms Q m T pc' Ls (.long z :: st)) : Go p e below s mc ms Q m T pc Ls (.int y :: .long x :: st) := by
  subst hpc hz; exact h.of fun _ kk => XT.lshl (g := mkF m pc Ls (.int y :: .long x :: st)) X.here hx rfl (hb hby hd) rfl kk
theorem Go.lshr (X : Stand p l e R s m args below meth c T locs cells slots) (hx : p.tables.exec = Jvm.exec) (hby : c.code = code) {x : Int64} {y : Int32} {z : Int64} (hd : decode code pc = .ok (.lshr, 1)) (hpc : pc + 1 = pc') (hz : x >>> (y.toInt64 &&& 63) = z) (h : Go p e below s mc ms Q m T pc' Ls (.long z :: st)) : Go p e below s mc ms Q m T pc Ls (.int y :: .long x :: st) := by
  subst hpc hz; exact h.of fun _ kk => XT.lshr (g := mkF m pc Ls (.int y :: .long x :: st)) X.here hx rfl (hb hby hd) rfl kk
theorem Go.lcmp (X : Stand p l e R s m args below meth c T locs cells slots) (hx : p.tables.exec = Jvm.exec) (hby : c.code = code) {x y : Int64} (hd : decode code pc = .ok (.lcmp, 1)) (hpc : pc + 1 = pc') (h : Go p e below s mc ms Q m T pc' Ls (.int (XT.cmpL x y) :: st)) : Go p e below s mc ms Q m T pc Ls (.long y :: .long x :: st) := by
  subst hpc; exact h.of fun _ kk => XT.lcmp (g := mkF m pc Ls (.long y :: .long x :: st)) X.here hx rfl (hb hby hd) rfl kk
theorem Go.ineg (X : Stand p l e R s m args below meth c T locs cells slots) (hx : p.tables.exec = Jvm.exec) (hby : c.code = code) {x : Int32} (hd : decode code pc = .ok (.ineg, 1)) (hpc : pc + 1 = pc') (h : Go p e below s mc ms Q m T pc' Ls (.int (-x) :: st)) : Go p e below s mc ms Q m T pc Ls (.int x :: st) := by
  subst hpc; exact h.of fun _ kk => XS.ineg (g := mkF m pc Ls (.int x :: st)) X.here hx rfl (hb hby hd) rfl kk
theorem Go.i2l (X : Stand p l e R s m args below meth c T locs cells slots) (hx : p.tables.exec = Jvm.exec) (hby : c.code = code) {x : Int32} (hd : decode code pc = .ok (.i2l, 1)) (hpc : pc + 1 = pc') (h : Go p e below s mc ms Q m T pc' Ls (.long (x.toInt64) :: st)) : Go p e below s mc ms Q m T pc Ls (.int x :: st) := by
  subst hpc; exact h.of fun _ kk => XT.i2l (g := mkF m pc Ls (.int x :: st)) X.here hx rfl (hb hby hd) rfl kk
theorem Go.l2i (X : Stand p l e R s m args below meth c T locs cells slots) (hx : p.tables.exec = Jvm.exec) (hby : c.code = code) {x : Int64} (hd : decode code pc = .ok (.l2i, 1)) (hpc : pc + 1 = pc') (h : Go p e below s mc ms Q m T pc' Ls (.int (x.toInt32) :: st)) : Go p e below s mc ms Q m T pc Ls (.long x :: st) := by
  subst hpc; exact h.of fun _ kk => XT.l2i (g := mkF m pc Ls (.long x :: st)) X.here hx rfl (hb hby hd) rfl kk
theorem Go.i2b (X : Stand p l e R s m args below meth c T locs cells slots) (hx : p.tables.exec = Jvm.exec) (hby : c.code = code) {x : Int32} (hd : decode code pc = .ok (.i2b, 1)) (hpc : pc + 1 = pc') (h : Go p e below s mc ms Q m T pc' Ls (.int (i2bF x) :: st)) : Go p e below s mc ms Q m T pc Ls (.int x :: st) := by
  subst hpc; exact h.of fun _ kk => XT.i2b (g := mkF m pc Ls (.int x :: st)) X.here hx rfl (hb hby hd) rfl kk
theorem Go.i2c (X : Stand p l e R s m args below meth c T locs cells slots) (hx : p.tables.exec = Jvm.exec) (hby : c.code = code) {x : Int32} (hd : decode code pc = .ok (.i2c, 1)) (hpc : pc + 1 = pc') (h : Go p e below s mc ms Q m T pc' Ls (.int (i2cF x) :: st)) : Go p e below s mc ms Q m T pc Ls (.int x :: st) := by
  subst hpc; exact h.of fun _ kk => XT.i2c (g := mkF m pc Ls (.int x :: st)) X.here hx rfl (hb hby hd) rfl kk
theorem Go.i2s (X : Stand p l e R s m args below meth c T locs cells slots) (hx : p.tables.exec = Jvm.exec) (hby : c.code = code) {x : Int32} (hd : decode code pc = .ok (.i2s, 1)) (hpc : pc + 1 = pc') (h : Go p e below s mc ms Q m T pc' Ls (.int (i2sF x) :: st)) : Go p e below s mc ms Q m T pc Ls (.int x :: st) := by
  subst hpc; exact h.of fun _ kk => XT.i2s (g := mkF m pc Ls (.int x :: st)) X.here hx rfl (hb hby hd) rfl kk
theorem Go.iinc (X : Stand p l e R s m args below meth c T locs cells slots) (hx : p.tables.exec = Jvm.exec) (hby : c.code = code) {k : Nat} {i : Int} {x v : Int32} (hd : decode code pc = .ok (.iinc k i, 3)) (hpc : pc + 3 = pc') (hv : Int32.ofInt i = v) (hl : Ls[k]? = some (.val (.int x))) (hl' : storeLocals Ls k (.int (x + v)) = some Ls') (h : Go p e below s mc ms Q m T pc' Ls' (st)) : Go p e below s mc ms Q m T pc Ls (st) := by
  subst hpc; exact h.of fun _ kk => XT.iincV (g := mkF m pc Ls (st)) X.here hx rfl v (hb hby hd) hv hl hl' kk
theorem Go.dup (X : Stand p l e R s m args below meth c T locs cells slots) (hx : p.tables.exec = Jvm.exec) (hby : c.code = code) {v : Value} (hd : decode code pc = .ok (.dup, 1)) (hpc : pc + 1 = pc') (hv : v.category = 1) (h : Go p e below s mc ms Q m T pc' Ls (v :: v :: st)) : Go p e below s mc ms Q m T pc Ls (v :: st) := by
  subst hpc; exact h.of fun _ kk => XS.dup (g := mkF m pc Ls (v :: st)) X.here hx rfl (hb hby hd) rfl hv kk
theorem Go.pop (X : Stand p l e R s m args below meth c T locs cells slots) (hx : p.tables.exec = Jvm.exec) (hby : c.code = code) {v : Value} (hd : decode code pc = .ok (.pop, 1)) (hpc : pc + 1 = pc') (hv : v.category = 1) (h : Go p e below s mc ms Q m T pc' Ls (st)) : Go p e below s mc ms Q m T pc Ls (v :: st) := by
  subst hpc; exact h.of fun _ kk => XT.pop (g := mkF m pc Ls (v :: st)) X.here hx rfl (hb hby hd) rfl hv kk
theorem Go.goto (X : Stand p l e R s m args below meth c T locs cells slots) (hx : p.tables.exec = Jvm.exec) (hby : c.code = code) {o : Int} (hd : decode code pc = .ok (.goto o, 3)) (ho : 0 ≤ (pc : Int) + o) (hp : ((pc : Int) + o).toNat = pc') (h : Go p e below s mc ms Q m T pc' Ls st) : Go p e below s mc ms Q m T pc Ls st :=
  h.of fun _ kk => XS.goto (g := mkF m pc Ls st) X.here hx rfl (pc0 := pc) rfl (hb hby hd) ho hp kk
theorem Go.icmp_eq (X : Stand p l e R s m args below meth c T locs cells slots) (hx : p.tables.exec = Jvm.exec) (hby : c.code = code) {pcN : Nat} {x y : Int32} {o : Int} (hd : decode code pc = .ok (.if_icmp .eq o, 3)) (ho : 0 ≤ (pc : Int) + o) (hp : ((pc : Int) + o).toNat = pc') (hn : pc + 3 = pcN) (yes : x = y → Go p e below s mc ms Q m T pc' Ls st) (no : ¬ x = y → Go p e below s mc ms Q m T pcN Ls st) : Go p e below s mc ms Q m T pc Ls (.int y :: .int x :: st) := by
  subst hn
  by_cases q : x = y
  · exact (yes q).of fun _ kk => XS.icmpYes (g := mkF m pc Ls (.int y :: .int x :: st)) X.here hx rfl (pc0 := pc) rfl (hb hby hd) rfl (XT.ii_eq_t q) ho hp kk
  · exact (no q).of fun _ kk => XS.icmpNo (g := mkF m pc Ls (.int y :: .int x :: st)) X.here hx rfl (hb hby hd) rfl (XT.ii_eq_f q) kk
theorem Go.icmp_ne (X : Stand p l e R s m args below meth c T locs cells slots) (hx : p.tables.exec = Jvm.exec) (hby : c.code = code) {pcN : Nat} {x y : Int32} {o : Int} (hd : decode code pc = .ok (.if_icmp .ne o, 3)) (ho : 0 ≤ (pc : Int) + o) (hp : ((pc : Int) + o).toNat = pc') (hn : pc + 3 = pcN) (yes : ¬ x = y → Go p e below s mc ms Q m T pc' Ls st) (no : x = y → Go p e below s mc ms Q m T pcN Ls st) : Go p e below s mc ms Q m T pc Ls (.int y :: .int x :: st) := by
  subst hn
  by_cases q : x = y
  · exact (no q).of fun _ kk => XS.icmpNo (g := mkF m pc Ls (.int y :: .int x :: st)) X.here hx rfl (hb hby hd) rfl (XT.ii_ne_f q) kk
  · exact (yes q).of fun _ kk => XS.icmpYes (g := mkF m pc Ls (.int y :: .int x :: st)) X.here hx rfl (pc0 := pc) rfl (hb hby hd) rfl (XT.ii_ne_t q) ho hp kk
theorem Go.icmp_lt (X : Stand p l e R s m args below meth c T locs cells slots) (hx : p.tables.exec = Jvm.exec) (hby : c.code = code) {pcN : Nat} {x y : Int32} {o : Int} (hd : decode code pc = .ok (.if_icmp .lt o, 3)) (ho : 0 ≤ (pc : Int) + o) (hp : ((pc : Int) + o).toNat = pc') (hn : pc + 3 = pcN) (yes : x < y → Go p e below s mc ms Q m T pc' Ls st) (no : ¬ x < y → Go p e below s mc ms Q m T pcN Ls st) : Go p e below s mc ms Q m T pc Ls (.int y :: .int x :: st) := by
  subst hn
  by_cases q : x < y
  · exact (yes q).of fun _ kk => XS.icmpYes (g := mkF m pc Ls (.int y :: .int x :: st)) X.here hx rfl (pc0 := pc) rfl (hb hby hd) rfl (XT.ii_lt_t q) ho hp kk
  · exact (no q).of fun _ kk => XS.icmpNo (g := mkF m pc Ls (.int y :: .int x :: st)) X.here hx rfl (hb hby hd) rfl (XT.ii_lt_f q) kk
theorem Go.icmp_ge (X : Stand p l e R s m args below meth c T locs cells slots) (hx : p.tables.exec = Jvm.exec) (hby : c.code = code) {pcN : Nat} {x y : Int32} {o : Int} (hd : decode code pc = .ok (.if_icmp .ge o, 3)) (ho : 0 ≤ (pc : Int) + o) (hp : ((pc : Int) + o).toNat = pc') (hn : pc + 3 = pcN) (yes : ¬ x < y → Go p e below s mc ms Q m T pc' Ls st) (no : x < y → Go p e below s mc ms Q m T pcN Ls st) : Go p e below s mc ms Q m T pc Ls (.int y :: .int x :: st) := by
  subst hn
  by_cases q : x < y
  · exact (no q).of fun _ kk => XS.icmpNo (g := mkF m pc Ls (.int y :: .int x :: st)) X.here hx rfl (hb hby hd) rfl (XT.ii_ge_f q) kk
  · exact (yes q).of fun _ kk => XS.icmpYes (g := mkF m pc Ls (.int y :: .int x :: st)) X.here hx rfl (pc0 := pc) rfl (hb hby hd) rfl (XT.ii_ge_t q) ho hp kk
theorem Go.icmp_gt (X : Stand p l e R s m args below meth c T locs cells slots) (hx : p.tables.exec = Jvm.exec) (hby : c.code = code) {pcN : Nat} {x y : Int32} {o : Int} (hd : decode code pc = .ok (.if_icmp .gt o, 3)) (ho : 0 ≤ (pc : Int) + o) (hp : ((pc : Int) + o).toNat = pc') (hn : pc + 3 = pcN) (yes : y < x → Go p e below s mc ms Q m T pc' Ls st) (no : ¬ y < x → Go p e below s mc ms Q m T pcN Ls st) : Go p e below s mc ms Q m T pc Ls (.int y :: .int x :: st) := by
  subst hn
  by_cases q : y < x
  · exact (yes q).of fun _ kk => XS.icmpYes (g := mkF m pc Ls (.int y :: .int x :: st)) X.here hx rfl (pc0 := pc) rfl (hb hby hd) rfl (XT.ii_gt_t q) ho hp kk
  · exact (no q).of fun _ kk => XS.icmpNo (g := mkF m pc Ls (.int y :: .int x :: st)) X.here hx rfl (hb hby hd) rfl (XT.ii_gt_f q) kk
theorem Go.icmp_le (X : Stand p l e R s m args below meth c T locs cells slots) (hx : p.tables.exec = Jvm.exec) (hby : c.code = code) {pcN : Nat} {x y : Int32} {o : Int} (hd : decode code pc = .ok (.if_icmp .le o, 3)) (ho : 0 ≤ (pc : Int) + o) (hp : ((pc : Int) + o).toNat = pc') (hn : pc + 3 = pcN) (yes : ¬ y < x → Go p e below s mc ms Q m T pc' Ls st) (no : y < x → Go p e below s mc ms Q m T pcN Ls st) : Go p e below s mc ms Q m T pc Ls (.int y :: .int x :: st) := by
  subst hn
  by_cases q : y < x
  · exact (no q).of fun _ kk => XS.icmpNo (g := mkF m pc Ls (.int y :: .int x :: st)) X.here hx rfl (hb hby hd) rfl (XT.ii_le_f q) kk
  · exact (yes q).of fun _ kk => XS.icmpYes (g := mkF m pc Ls (.int y :: .int x :: st)) X.here hx rfl (pc0 := pc) rfl (hb hby hd) rfl (XT.ii_le_t q) ho hp kk
theorem Go.if_eq (X : Stand p l e R s m args below meth c T locs cells slots) (hx : p.tables.exec = Jvm.exec) (hby : c.code = code) {pcN : Nat} {x : Int32} {o : Int} (hd : decode code pc = .ok (.ifCond .eq o, 3)) (ho : 0 ≤ (pc : Int) + o) (hp : ((pc : Int) + o).toNat = pc') (hn : pc + 3 = pcN) (yes : x = 0 → Go p e below s mc ms Q m T pc' Ls st) (no : ¬ x = 0 → Go p e below s mc ms Q m T pcN Ls st) : Go p e below s mc ms Q m T pc Ls (.int x :: st) := by
  subst hn
  by_cases q : x = 0
  · exact (yes q).of fun _ kk => XS.ifYes (g := mkF m pc Ls (.int x :: st)) X.here hx rfl (pc0 := pc) rfl (hb hby hd) rfl (XT.i0_eq_t q) ho hp kk
  · exact (no q).of fun _ kk => XS.ifNo (g := mkF m pc Ls (.int x :: st)) X.here hx rfl (hb hby hd) rfl (XT.i0_eq_f q) kk
theorem Go.if_ne (X : Stand p l e R s m args below meth c T locs cells slots) (hx : p.tables.exec = Jvm.exec) (hby : c.code = code) {pcN : Nat} {x : Int32} {o : Int} (hd : decode code pc = .ok (.ifCond .ne o, 3)) (ho : 0 ≤ (pc : Int) + o) (hp : ((pc : Int) + o).toNat = pc') (hn : pc + 3 = pcN) (yes : ¬ x = 0 → Go p e below s mc ms Q m T pc' Ls st) (no : x = 0 → Go p e below s mc ms Q m T pcN Ls st) : Go p e below s mc ms Q m T pc Ls (.int x :: st) := by
  subst hn
  by_cases q : x = 0
  · exact (no q).of fun _ kk => XS.ifNo (g := mkF m pc Ls (.int x :: st)) X.here hx rfl (hb hby hd) rfl (XT.i0_ne_f q) kk
  · exact (yes q).of fun _ kk => XS.ifYes (g := mkF m pc Ls (.int x :: st)) X.here hx rfl (pc0 := pc) rfl (hb hby hd) rfl (XT.i0_ne_t q) ho hp kk
theorem Go.if_lt (X : Stand p l e R s m args below meth c T locs cells slots) (hx : p.tables.exec = Jvm.exec) (hby : c.code = code) {pcN : Nat} {x : Int32} {o : Int} (hd : decode code pc = .ok (.ifCond .lt o, 3)) (ho : 0 ≤ (pc : Int) + o) (hp : ((pc : Int) + o).toNat = pc') (hn : pc + 3 = pcN) (yes : x < 0 → Go p e below s mc ms Q m T pc' Ls st) (no : ¬ x < 0 → Go p e below s mc ms Q m T pcN Ls st) : Go p e below s mc ms Q m T pc Ls (.int x :: st) := by
  subst hn
  by_cases q : x < 0
  · exact (yes q).of fun _ kk => XS.ifYes (g := mkF m pc Ls (.int x :: st)) X.here hx rfl (pc0 := pc) rfl (hb hby hd) rfl (XT.i0_lt_t q) ho hp kk
  · exact (no q).of fun _ kk => XS.ifNo (g := mkF m pc Ls (.int x :: st)) X.here hx rfl (hb hby hd) rfl (XT.i0_lt_f q) kk
theorem Go.if_ge (X : Stand p l e R s m args below meth c T locs cells slots) (hx : p.tables.exec = Jvm.exec) (hby : c.code = code) {pcN : Nat} {x : Int32} {o : Int} (hd : decode code pc = .ok (.ifCond .ge o, 3)) (ho : 0 ≤ (pc : Int) + o) (hp : ((pc : Int) + o).toNat = pc') (hn : pc + 3 = pcN) (yes : ¬ x < 0 → Go p e below s mc ms Q m T pc' Ls st) (no : x < 0 → Go p e below s mc ms Q m T pcN Ls st) : Go p e below s mc ms Q m T pc Ls (.int x :: st) := by
  subst hn
  by_cases q : x < 0
  · exact (no q).of fun _ kk => XS.ifNo (g := mkF m pc Ls (.int x :: st)) X.here hx rfl (hb hby hd) rfl (XT.i0_ge_f q) kk
  · exact (yes q).of fun _ kk => XS.ifYes (g := mkF m pc Ls (.int x :: st)) X.here hx rfl (pc0 := pc) rfl (hb hby hd) rfl (XT.i0_ge_t q) ho hp kk
theorem Go.if_gt (X : Stand p l e R s m args below meth c T locs cells slots) (hx : p.tables.exec = Jvm.exec) (hby : c.code = code) {pcN : Nat} {x : Int32} {o : Int} (hd : decode code pc = .ok (.ifCond .gt o, 3)) (ho : 0 ≤ (pc : Int) + o) (hp : ((pc : Int) + o).toNat = pc') (hn : pc + 3 = pcN) (yes : 0 < x → Go p e below s mc ms Q m T pc' Ls st) (no : ¬ 0 < x → Go p e below s mc ms Q m T pcN Ls st) : Go p e below s mc ms Q m T pc Ls (.int x :: st) := by
  subst hn
  by_cases q : 0 < x
  · exact (yes q).of fun _ kk => XS.ifYes (g := mkF m pc Ls (.int x :: st)) X.here hx rfl (pc0 := pc) rfl (hb hby hd) rfl (XT.i0_gt_t q) ho hp kk
  · exact (no q).of fun _ kk => XS.ifNo (g := mkF m pc Ls (.int x :: st)) X.here hx rfl (hb hby hd) rfl (XT.i0_gt_f q) kk
theorem Go.if_le (X : Stand p l e R s m args below meth c T locs cells slots) (hx : p.tables.exec = Jvm.exec) (hby : c.code = code) {pcN : Nat} {x : Int32} {o : Int} (hd : decode code pc = .ok (.ifCond .le o, 3)) (ho : 0 ≤ (pc : Int) + o) (hp : ((pc : Int) + o).toNat = pc') (hn : pc + 3 = pcN) (yes : ¬ 0 < x → Go p e below s mc ms Q m T pc' Ls st) (no : 0 < x → Go p e below s mc ms Q m T pcN Ls st) : Go p e below s mc ms Q m T pc Ls (.int x :: st) := by
  subst hn
  by_cases q : 0 < x
  · exact (no q).of fun _ kk => XS.ifNo (g := mkF m pc Ls (.int x :: st)) X.here hx rfl (hb hby hd) rfl (XT.i0_le_f q) kk
  · exact (yes q).of fun _ kk => XS.ifYes (g := mkF m pc Ls (.int x :: st)) X.here hx rfl (pc0 := pc) rfl (hb hby hd) rfl (XT.i0_le_t q) ho hp kk
theorem Go.ifL_eq (X : Stand p l e R s m args below meth c T locs cells slots) (hx : p.tables.exec = Jvm.exec) (hby : c.code = code) {pcN : Nat} {x y : Int64} {o : Int} (hd : decode code pc = .ok (.ifCond .eq o, 3)) (ho : 0 ≤ (pc : Int) + o) (hp : ((pc : Int) + o).toNat = pc') (hn : pc + 3 = pcN) (yes : x = y → Go p e below s mc ms Q m T pc' Ls st) (no : ¬ x = y → Go p e below s mc ms Q m T pcN Ls st) : Go p e below s mc ms Q m T pc Ls (.int (XT.cmpL x y) :: st) := by
  subst hn
  by_cases q : x = y
  · exact (yes q).of fun _ kk => XS.ifYes (g := mkF m pc Ls (.int (XT.cmpL x y) :: st)) X.here hx rfl (pc0 := pc) rfl (hb hby hd) rfl (XT.ll_eq_t q) ho hp kk
  · exact (no q).of fun _ kk => XS.ifNo (g := mkF m pc Ls (.int (XT.cmpL x y) :: st)) X.here hx rfl (hb hby hd) rfl (XT.ll_eq_f q) kk
theorem Go.ifL_ne (X : Stand p l e R s m args below meth c T locs cells slots) (hx : p.tables.exec = Jvm.exec) (hby : c.code = code) {pcN : Nat} {x y : Int64} {o : Int} (hd : decode code pc = .ok (.ifCond .ne o, 3)) (ho : 0 ≤ (pc : Int) + o) (hp : ((pc : Int) + o).toNat = pc') (hn : pc + 3 = pcN) (yes : ¬ x = y → Go p e below s mc ms Q m T pc' Ls st) (no : x = y → Go p e below s mc ms Q m T pcN Ls st) : Go p e below s mc ms Q m T pc Ls (.int (XT.cmpL x y) :: st) := by
  subst hn
  by_cases q : x = y
  · exact (no q).of fun _ kk => XS.ifNo (g := mkF m pc Ls (.int (XT.cmpL x y) :: st)) X.here hx rfl (hb hby hd) rfl (XT.ll_ne_f q) kk
  · exact (yes q).of fun _ kk => XS.ifYes (g := mkF m pc Ls (.int (XT.cmpL x y) :: st)) X.here hx rfl (pc0 := pc) rfl (hb hby hd) rfl (XT.ll_ne_t q) ho hp kk
theorem Go.ifL_lt (X : Stand p l e R s m args below meth c T locs cells slots) (hx : p.tables.exec = Jvm.exec) (hby : c.code = code) {pcN : Nat} {x y : Int64} {o : Int} (hd : decode code pc = .ok (.ifCond .lt o, 3)) (ho : 0 ≤ (pc : Int) + o) (hp : ((pc : Int) + o).toNat = pc') (hn : pc + 3 = pcN) (yes : x < y → Go p e below s mc ms Q m T pc' Ls st) (no : ¬ x < y → Go p e below s mc ms Q m T pcN Ls st) : Go p e below s mc ms Q m T pc Ls (.int (XT.cmpL x y) :: st) := by
  subst hn
  by_cases q : x < y
  · exact (yes q).of fun _ kk => XS.ifYes (g := mkF m pc Ls (.int (XT.cmpL x y) :: st)) X.here hx rfl (pc0 := pc) rfl (hb hby hd) rfl (XT.ll_lt_t q) ho hp kk
  · exact (no q).of fun _ kk => XS.ifNo (g := mkF m pc Ls (.int (XT.cmpL x y) :: st)) X.here hx rfl (hb hby hd) rfl (XT.ll_lt_f q) kk
theorem Go.ifL_ge (X : Stand p l e R s m args below meth c T locs cells slots) (hx : p.tables.exec = Jvm.exec) (hby : c.code = code) {pcN : Nat} {x y : Int64} {o : Int} (hd : decode code pc = .ok (.ifCond .ge o, 3)) (ho : 0 ≤ (pc : Int) + o) (hp : ((pc : Int) + o).toNat = pc') (hn : pc + 3 = pcN) (yes : ¬ x < y → Go p e below s mc ms Q m T pc' Ls st) (no : x < y → Go p e below s mc ms Q m T pcN Ls st) : Go p e below s mc ms Q m T pc Ls (.int (XT.cmpL x y) :: st) := by
  subst hn
  by_cases q : x < y
  · exact (no q).of fun _ kk => XS.ifNo (g := mkF m pc Ls (.int (XT.cmpL x y) :: st)) X.here hx rfl (hb hby hd) rfl (XT.ll_ge_f q) kk
  · exact (yes q).of fun _ kk => XS.ifYes (g := mkF m pc Ls (.int (XT.cmpL x y) :: st)) X.here hx rfl (pc0 := pc) rfl (hb hby hd) rfl (XT.ll_ge_t q) ho hp kk
theorem Go.ifL_gt (X : Stand p l e R s m args below meth c T locs cells slots) (hx : p.tables.exec = Jvm.exec) (hby : c.code = code) {pcN : Nat} {x y : Int64} {o : Int} (hd : decode code pc = .ok (.ifCond .gt o, 3)) (ho : 0 ≤ (pc : Int) + o) (hp : ((pc : Int) + o).toNat = pc') (hn : pc + 3 = pcN) (yes : y < x → Go p e below s mc ms Q m T pc' Ls st) (no : ¬ y < x → Go p e below s mc ms Q m T pcN Ls st) : Go p e below s mc ms Q m T pc Ls (.int (XT.cmpL x y) :: st) := by
  subst hn
  by_cases q : y < x
  · exact (yes q).of fun _ kk => XS.ifYes (g := mkF m pc Ls (.int (XT.cmpL x y) :: st)) X.here hx rfl (pc0 := pc) rfl (hb hby hd) rfl (XT.ll_gt_t q) ho hp kk
  · exact (no q).of fun _ kk => XS.ifNo (g := mkF m pc Ls (.int (XT.cmpL x y) :: st)) X.here hx rfl (hb hby hd) rfl (XT.ll_gt_f q) kk
theorem Go.ifL_le (X : Stand p l e R s m args below meth c T locs cells slots) (hx : p.tables.exec = Jvm.exec) (hby : c.code = code) {pcN : Nat} {x y : Int64} {o : Int} (hd : decode code pc = .ok (.ifCond .le o, 3)) (ho : 0 ≤ (pc : Int) + o) (hp : ((pc : Int) + o).toNat = pc') (hn : pc + 3 = pcN) (yes : ¬ y < x → Go p e below s mc ms Q m T pc' Ls st) (no : y < x → Go p e below s mc ms Q m T pcN Ls st) : Go p e below s mc ms Q m T pc Ls (.int (XT.cmpL x y) :: st) := by
  subst hn
  by_cases q : y < x
  · exact (no q).of fun _ kk => XS.ifNo (g := mkF m pc Ls (.int (XT.cmpL x y) :: st)) X.here hx rfl (hb hby hd) rfl (XT.ll_le_f q) kk
  · exact (yes q).of fun _ kk => XS.ifYes (g := mkF m pc Ls (.int (XT.cmpL x y) :: st)) X.here hx rfl (pc0 := pc) rfl (hb hby hd) rfl (XT.ll_le_t q) ho hp kk
theorem Go.iretI (X : Stand p l e R s m args below meth c T locs cells slots) (hx : p.tables.exec = Jvm.exec) (hby : c.code = code) (hlk : meth.locks = false) (hret : meth.sig.returnType = some .int) {w : Int32} (hd : decode code pc = .ok (.ireturn, 1)) (hc : cells ≤ mc) (hs : slots ≤ ms) (hq : Q (some (.int w)) T.heap locs) : Go p e below s mc ms Q m T pc Ls [.int w] := by
  obtain ⟨fs, hr, hrun, hended, hW, hsame⟩ := X.leave (v := some (.int w)) (fun h => by rw [hret] at h; cases h) hlk
  exact ⟨_, _, X.ireturnOut hx hret rfl (Or.inl rfl) (hb hby hd) hr, hrun, hended, _, _, rfl, hq, ⟨_, rfl⟩, hW, hsame.mono hc hs⟩
theorem Go.iretN (X : Stand p l e R s m args below meth c T locs cells slots) (hx : p.tables.exec = Jvm.exec) (hby : c.code = code) (hlk : meth.locks = false) {t : FieldType} (hret : meth.sig.returnType = some t) (ht : t = .boolean ∨ t = .byte ∨ t = .char ∨ t = .short) {w w' : Int32} (hw : nar t w = w') (hd : decode code pc = .ok (.ireturn, 1)) (hc : cells ≤ mc) (hs : slots ≤ ms) (hq : Q (some (.int w')) T.heap locs) : Go p e below s mc ms Q m T pc Ls [.int w] := by
  subst hw
  obtain ⟨fs, hr, hrun, hended, hW, hsame⟩ := X.leave (v := some (.int (nar t w))) (fun h => by rw [hret] at h; cases h) hlk
  exact ⟨_, _, retN X hx (t := t) hret ht (hb hby hd) hr, hrun, hended, _, _, rfl, hq, ⟨_, rfl⟩, hW, hsame.mono hc hs⟩
theorem Go.lret (X : Stand p l e R s m args below meth c T locs cells slots) (hx : p.tables.exec = Jvm.exec) (hby : c.code = code) (hlk : meth.locks = false) (hret : meth.sig.returnType = some .long) {w : Int64} (hd : decode code pc = .ok (.lreturn, 1)) (hc : cells ≤ mc) (hs : slots ≤ ms) (hq : Q (some (.long w)) T.heap locs) : Go p e below s mc ms Q m T pc Ls [.long w] := by
  obtain ⟨fs, hr, hrun, hended, hW, hsame⟩ := X.leave (v := some (.long w)) (fun h => by rw [hret] at h; cases h) hlk
  exact ⟨_, _, X.lreturnOut hx hret (hb hby hd) hr, hrun, hended, _, _, rfl, hq, ⟨_, rfl⟩, hW, hsame.mono hc hs⟩
theorem Go.aret (X : Stand p l e R s m args below meth c T locs cells slots) (hx : p.tables.exec = Jvm.exec) (hby : c.code = code) (hlk : meth.locks = false) {t : FieldType} (hret : meth.sig.returnType = some t) (ht : t.isReference = true) {w : Value} (hw : w.isRef = true) (hd : decode code pc = .ok (.areturn, 1)) (hc : cells ≤ mc) (hs : slots ≤ ms) (hq : Q (some w) T.heap locs) : Go p e below s mc ms Q m T pc Ls [w] := by
  obtain ⟨fs, hr, hrun, hended, hW, hsame⟩ := X.leave (v := some w) (fun h => by rw [hret] at h; cases h) hlk
  exact ⟨_, _, X.areturnOut hx hw hret ht (hb hby hd) hr, hrun, hended, _, _, rfl, hq, ⟨_, rfl⟩, hW, hsame.mono hc hs⟩
theorem Go.vret (X : Stand p l e R s m args below meth c T locs cells slots) (hx : p.tables.exec = Jvm.exec) (hby : c.code = code) (hlk : meth.locks = false) (hret : meth.sig.returnType = none) (hd : decode code pc = .ok (.return_, 1)) (hc : cells ≤ mc) (hs : slots ≤ ms) (hq : Q none T.heap locs) : Go p e below s mc ms Q m T pc Ls [] := by
  obtain ⟨fs, hr, hrun, hended, hW, hsame⟩ := X.leave (v := none) (fun _ => rfl) hlk
  exact ⟨_, _, X.returnOut hx hret (hb hby hd) hr, hrun, hended, _, _, rfl, hq, ⟨_, rfl⟩, hW, hsame.mono hc hs⟩
/-- what a body that keeps the heap leaves -/
def PQ (h0 : Heap) (r : Option Value) (v : Option Value) (h : Heap) (L : List Loc) : Prop := v = r ∧ L = [] ∧ h = h0
theorem Go.callS (X : Stand p l e R s m args below meth c T locs cells slots) (hx : p.tables.exec = Jvm.exec) (hby : c.code = code) {Z : State} {a0 : Array Value} {h : Heap} (hZ : Z.Warmed39 s.vm) (hml : Ls.size = c.maxLocals) {own : String} {k : Nat} {y : MethodName} {bytes : ByteArray} {maxL : Nat} {ret : Option FieldType} {rm : Room} {W : Nat} {as' : Array Value} {QY : Option Value → Heap → List Loc → Prop}
    (hown : s.vm.findClass own = some m.cls) (w1 : (Cond.methodLink own k y).before a0 Z = true) (w2 : (Cond.static y).before a0 Z = true) (w3 : (Cond.initialized y.cls).before a0 Z = true) (w4 : (Cond.code y bytes maxL ret).before a0 Z = true) (hy : y.cls ≠ "java/lang/invoke/MethodHandle" ∧ y.cls ≠ "java/lang/invoke/VarHandle")
    (hM : MetFree l y (head1 [Cond.code y bytes maxL ret] rm) (fun a U => a = as' ∧ Z.Warmed39 U.vm ∧ U.heap = h) (fun _ _ _ _ _ => True) (fun _ U o U' => ∃ v L, o = .returned v ∧ QY v U'.heap L ∧ FrameEnd U o U' L rm.cells rm.slots))
    (hf : rm.frames + 1 ≤ R.frames) (hl : W + (maxL + 11) + rm.locals ≤ R.locals) (eT : T.heap = h) {argsL rest : List Value} {sig : MethodDescriptor} (hsig : parseMethodDescriptor y.desc = some sig) (hlen : argsL.length = sig.parameters.length) (has : argsL.toArray = as') (hst : st = argsL.reverse ++ rest) (hW : (rest.map fun v => v.category).sum ≤ W)
    (hc : cells + rm.cells ≤ R.cells) (hsl : slots + rm.slots ≤ R.slots) (hd : decode code pc = .ok (.invokestatic k, 3)) (hpc : pc + 3 = pc')
    (K : ∀ v T' L, Stand p l e R s m args below meth c T' (locs ++ L) (cells + rm.cells) (slots + rm.slots) → QY v T'.heap L → Go p e below s mc ms Q m T' pc' Ls (v.toList ++ rest)) : Go p e below s mc ms Q m T pc Ls st := by
  subst hpc hst has
  obtain ⟨v, vm₁, B, -, X', ⟨L, hQ, l1, l2, l3⟩, st⟩ := Jvm.LawKit.callS X hx hown (mvT hZ w1) (mvT hZ w2) (mvT hZ w3) (mvT hZ w4) hy (backOf (W := W) hM hZ w4 w3 hf hl) (g := mkF m pc Ls (argsL.reverse ++ rest)) rfl hml (argsL := argsL) (rest := rest) (lenOf hsig hlen) rfl (by show 2 * 0 + _ ≤ _; omega) (hb hby hd) (fun _ _ => ⟨rfl, eT, hc, hsl⟩)
  rw [l1, l2, l3] at X'
  exact (K v B.U L X' hQ).of st
theorem Go.callSP (X : Stand p l e R s m args below meth c T locs cells slots) (hx : p.tables.exec = Jvm.exec) (hby : c.code = code) {Z : State} {a0 : Array Value} {h : Heap} (hZ : Z.Warmed39 s.vm) (hml : Ls.size = c.maxLocals) {own : String} {k : Nat} {y : MethodName} {bytes : ByteArray} {maxL : Nat} {ret : Option FieldType} {rm : Room} {W : Nat} {as' : Array Value} {r : Value}
    (hown : s.vm.findClass own = some m.cls) (w1 : (Cond.methodLink own k y).before a0 Z = true) (w2 : (Cond.static y).before a0 Z = true) (w3 : (Cond.initialized y.cls).before a0 Z = true) (w4 : (Cond.code y bytes maxL ret).before a0 Z = true) (hy : y.cls ≠ "java/lang/invoke/MethodHandle" ∧ y.cls ≠ "java/lang/invoke/VarHandle")
    (hM : MetFree l y (head1 [Cond.code y bytes maxL ret] rm) (fun a U => a = as' ∧ Z.Warmed39 U.vm ∧ U.heap = h) (fun _ _ _ _ _ => True) (fun _ U o U' => ∃ v L, o = .returned v ∧ PQ h (some r) v U'.heap L ∧ FrameEnd U o U' L rm.cells rm.slots))
    (hf : rm.frames + 1 ≤ R.frames) (hl : W + (maxL + 11) + rm.locals ≤ R.locals) (eT : T.heap = h) {argsL rest : List Value} {sig : MethodDescriptor} (hsig : parseMethodDescriptor y.desc = some sig) (hlen : argsL.length = sig.parameters.length) (has : argsL.toArray = as') (hst : st = argsL.reverse ++ rest) (hW : (rest.map fun v => v.category).sum ≤ W)
    (r1 : rm.cells = 0) (r2 : rm.slots = 0) (hc : cells ≤ R.cells) (hsl : slots ≤ R.slots) (hd : decode code pc = .ok (.invokestatic k, 3)) (hpc : pc + 3 = pc')
    (K : ∀ T', Stand p l e R s m args below meth c T' locs cells slots → T'.heap = h → Go p e below s mc ms Q m T' pc' Ls (r :: rest)) : Go p e below s mc ms Q m T pc Ls st := by
  refine Go.callS X hx hby hZ hml hown w1 w2 w3 w4 hy hM hf hl eT hsig hlen has hst hW (by rw [r1]; exact hc) (by rw [r2]; exact hsl) hd hpc (fun v T' L X' hQ => ?_)
  obtain ⟨rfl, rfl, e1⟩ := hQ
  rw [List.append_nil, r1, r2] at X'
  exact K T' X' e1
end Law

-- body 1
def f1_179 (x0 : Int32) : Option (Int32) := if x0 < (65536 : Int32) then some (0 : Int32) else if (983039 : Int32) < x0 then some (0 : Int32) else some (1 : Int32)
def f1_167 (x0 : Int32) : Option (Int32) := if x0 < (65008 : Int32) then f1_179 x0 else if (65533 : Int32) < x0 then f1_179 x0 else some (1 : Int32)
def f1_155 (x0 : Int32) : Option (Int32) := if x0 < (63744 : Int32) then f1_167 x0 else if (64975 : Int32) < x0 then f1_167 x0 else some (1 : Int32)
def f1_142 (x0 : Int32) : Option (Int32) := if x0 < (12289 : Int32) then f1_155 x0 else if (55295 : Int32) < x0 then f1_155 x0 else some (1 : Int32)
def f1_128 (x0 : Int32) : Option (Int32) := if x0 < (11264 : Int32) then f1_142 x0 else if (12271 : Int32) < x0 then f1_142 x0 else some (1 : Int32)
def f1_100 (x0 : Int32) : Option (Int32) := if x0 = (8204 : Int32) then some (1 : Int32) else if x0 = (8205 : Int32) then some (1 : Int32) else if x0 < (8304 : Int32) then f1_128 x0 else if (8591 : Int32) < x0 then f1_128 x0 else some (1 : Int32)
def f1_86 (x0 : Int32) : Option (Int32) := if x0 < (895 : Int32) then f1_100 x0 else if (8191 : Int32) < x0 then f1_100 x0 else some (1 : Int32)
def f1_72 (x0 : Int32) : Option (Int32) := if x0 < (880 : Int32) then f1_86 x0 else if (893 : Int32) < x0 then f1_86 x0 else some (1 : Int32)
def f1_58 (x0 : Int32) : Option (Int32) := if x0 < (248 : Int32) then f1_72 x0 else if (767 : Int32) < x0 then f1_72 x0 else some (1 : Int32)
def f1_44 (x0 : Int32) : Option (Int32) := if x0 < (216 : Int32) then f1_58 x0 else if (246 : Int32) < x0 then f1_58 x0 else some (1 : Int32)
def f1_24 (x0 : Int32) : Option (Int32) := if x0 = (95 : Int32) then some (1 : Int32) else if x0 < (192 : Int32) then f1_44 x0 else if (214 : Int32) < x0 then f1_44 x0 else some (1 : Int32)
def f1_12 (x0 : Int32) : Option (Int32) := if x0 < (65 : Int32) then f1_24 x0 else if (90 : Int32) < x0 then f1_24 x0 else some (1 : Int32)
def f1_0 (x0 : Int32) : Option (Int32) := if x0 < (97 : Int32) then f1_12 x0 else if (122 : Int32) < x0 then f1_12 x0 else some (1 : Int32)
theorem d1_0 : decode prog_86_method_2_code 0 = .ok (.iload_n 0, 1) := by decide +kernel
theorem d1_1 : decode prog_86_method_2_code 1 = .ok (.bipush 97, 2) := by decide +kernel
theorem d1_3 : decode prog_86_method_2_code 3 = .ok (.if_icmp .lt 9, 3) := by decide +kernel
theorem d1_6 : decode prog_86_method_2_code 6 = .ok (.iload_n 0, 1) := by decide +kernel
theorem d1_7 : decode prog_86_method_2_code 7 = .ok (.bipush 122, 2) := by decide +kernel
theorem d1_9 : decode prog_86_method_2_code 9 = .ok (.if_icmp .le 182, 3) := by decide +kernel
theorem d1_12 : decode prog_86_method_2_code 12 = .ok (.iload_n 0, 1) := by decide +kernel
theorem d1_13 : decode prog_86_method_2_code 13 = .ok (.bipush 65, 2) := by decide +kernel
theorem d1_15 : decode prog_86_method_2_code 15 = .ok (.if_icmp .lt 9, 3) := by decide +kernel
theorem d1_18 : decode prog_86_method_2_code 18 = .ok (.iload_n 0, 1) := by decide +kernel
theorem d1_19 : decode prog_86_method_2_code 19 = .ok (.bipush 90, 2) := by decide +kernel
theorem d1_21 : decode prog_86_method_2_code 21 = .ok (.if_icmp .le 170, 3) := by decide +kernel
theorem d1_24 : decode prog_86_method_2_code 24 = .ok (.iload_n 0, 1) := by decide +kernel
theorem d1_25 : decode prog_86_method_2_code 25 = .ok (.bipush 95, 2) := by decide +kernel
theorem d1_27 : decode prog_86_method_2_code 27 = .ok (.if_icmp .eq 164, 3) := by decide +kernel
theorem d1_30 : decode prog_86_method_2_code 30 = .ok (.iload_n 0, 1) := by decide +kernel
theorem d1_31 : decode prog_86_method_2_code 31 = .ok (.sipush 192, 3) := by decide +kernel
theorem d1_34 : decode prog_86_method_2_code 34 = .ok (.if_icmp .lt 10, 3) := by decide +kernel
theorem d1_37 : decode prog_86_method_2_code 37 = .ok (.iload_n 0, 1) := by decide +kernel
theorem d1_38 : decode prog_86_method_2_code 38 = .ok (.sipush 214, 3) := by decide +kernel
theorem d1_41 : decode prog_86_method_2_code 41 = .ok (.if_icmp .le 150, 3) := by decide +kernel
theorem d1_44 : decode prog_86_method_2_code 44 = .ok (.iload_n 0, 1) := by decide +kernel
theorem d1_45 : decode prog_86_method_2_code 45 = .ok (.sipush 216, 3) := by decide +kernel
theorem d1_48 : decode prog_86_method_2_code 48 = .ok (.if_icmp .lt 10, 3) := by decide +kernel
theorem d1_51 : decode prog_86_method_2_code 51 = .ok (.iload_n 0, 1) := by decide +kernel
theorem d1_52 : decode prog_86_method_2_code 52 = .ok (.sipush 246, 3) := by decide +kernel
theorem d1_55 : decode prog_86_method_2_code 55 = .ok (.if_icmp .le 136, 3) := by decide +kernel
theorem d1_58 : decode prog_86_method_2_code 58 = .ok (.iload_n 0, 1) := by decide +kernel
theorem d1_59 : decode prog_86_method_2_code 59 = .ok (.sipush 248, 3) := by decide +kernel
theorem d1_62 : decode prog_86_method_2_code 62 = .ok (.if_icmp .lt 10, 3) := by decide +kernel
theorem d1_65 : decode prog_86_method_2_code 65 = .ok (.iload_n 0, 1) := by decide +kernel
theorem d1_66 : decode prog_86_method_2_code 66 = .ok (.sipush 767, 3) := by decide +kernel
theorem d1_69 : decode prog_86_method_2_code 69 = .ok (.if_icmp .le 122, 3) := by decide +kernel
theorem d1_72 : decode prog_86_method_2_code 72 = .ok (.iload_n 0, 1) := by decide +kernel
theorem d1_73 : decode prog_86_method_2_code 73 = .ok (.sipush 880, 3) := by decide +kernel
theorem d1_76 : decode prog_86_method_2_code 76 = .ok (.if_icmp .lt 10, 3) := by decide +kernel
theorem d1_79 : decode prog_86_method_2_code 79 = .ok (.iload_n 0, 1) := by decide +kernel
theorem d1_80 : decode prog_86_method_2_code 80 = .ok (.sipush 893, 3) := by decide +kernel
theorem d1_83 : decode prog_86_method_2_code 83 = .ok (.if_icmp .le 108, 3) := by decide +kernel
theorem d1_86 : decode prog_86_method_2_code 86 = .ok (.iload_n 0, 1) := by decide +kernel
theorem d1_87 : decode prog_86_method_2_code 87 = .ok (.sipush 895, 3) := by decide +kernel
theorem d1_90 : decode prog_86_method_2_code 90 = .ok (.if_icmp .lt 10, 3) := by decide +kernel
theorem d1_93 : decode prog_86_method_2_code 93 = .ok (.iload_n 0, 1) := by decide +kernel
theorem d1_94 : decode prog_86_method_2_code 94 = .ok (.sipush 8191, 3) := by decide +kernel
theorem d1_97 : decode prog_86_method_2_code 97 = .ok (.if_icmp .le 94, 3) := by decide +kernel
theorem d1_100 : decode prog_86_method_2_code 100 = .ok (.iload_n 0, 1) := by decide +kernel
theorem d1_101 : decode prog_86_method_2_code 101 = .ok (.sipush 8204, 3) := by decide +kernel
theorem d1_104 : decode prog_86_method_2_code 104 = .ok (.if_icmp .eq 87, 3) := by decide +kernel
theorem d1_107 : decode prog_86_method_2_code 107 = .ok (.iload_n 0, 1) := by decide +kernel
theorem d1_108 : decode prog_86_method_2_code 108 = .ok (.sipush 8205, 3) := by decide +kernel
theorem d1_111 : decode prog_86_method_2_code 111 = .ok (.if_icmp .eq 80, 3) := by decide +kernel
theorem d1_114 : decode prog_86_method_2_code 114 = .ok (.iload_n 0, 1) := by decide +kernel
theorem d1_115 : decode prog_86_method_2_code 115 = .ok (.sipush 8304, 3) := by decide +kernel
theorem d1_118 : decode prog_86_method_2_code 118 = .ok (.if_icmp .lt 10, 3) := by decide +kernel
theorem d1_121 : decode prog_86_method_2_code 121 = .ok (.iload_n 0, 1) := by decide +kernel
theorem d1_122 : decode prog_86_method_2_code 122 = .ok (.sipush 8591, 3) := by decide +kernel
theorem d1_125 : decode prog_86_method_2_code 125 = .ok (.if_icmp .le 66, 3) := by decide +kernel
theorem d1_128 : decode prog_86_method_2_code 128 = .ok (.iload_n 0, 1) := by decide +kernel
theorem d1_129 : decode prog_86_method_2_code 129 = .ok (.sipush 11264, 3) := by decide +kernel
theorem d1_132 : decode prog_86_method_2_code 132 = .ok (.if_icmp .lt 10, 3) := by decide +kernel
theorem d1_135 : decode prog_86_method_2_code 135 = .ok (.iload_n 0, 1) := by decide +kernel
theorem d1_136 : decode prog_86_method_2_code 136 = .ok (.sipush 12271, 3) := by decide +kernel
theorem d1_139 : decode prog_86_method_2_code 139 = .ok (.if_icmp .le 52, 3) := by decide +kernel
theorem d1_142 : decode prog_86_method_2_code 142 = .ok (.iload_n 0, 1) := by decide +kernel
theorem d1_143 : decode prog_86_method_2_code 143 = .ok (.sipush 12289, 3) := by decide +kernel
theorem d1_146 : decode prog_86_method_2_code 146 = .ok (.if_icmp .lt 9, 3) := by decide +kernel
theorem d1_149 : decode prog_86_method_2_code 149 = .ok (.iload_n 0, 1) := by decide +kernel
theorem d1_150 : decode prog_86_method_2_code 150 = .ok (.ldc 7, 2) := by decide +kernel
theorem d1_152 : decode prog_86_method_2_code 152 = .ok (.if_icmp .le 39, 3) := by decide +kernel
theorem d1_155 : decode prog_86_method_2_code 155 = .ok (.iload_n 0, 1) := by decide +kernel
theorem d1_156 : decode prog_86_method_2_code 156 = .ok (.ldc 8, 2) := by decide +kernel
theorem d1_158 : decode prog_86_method_2_code 158 = .ok (.if_icmp .lt 9, 3) := by decide +kernel
theorem d1_161 : decode prog_86_method_2_code 161 = .ok (.iload_n 0, 1) := by decide +kernel
theorem d1_162 : decode prog_86_method_2_code 162 = .ok (.ldc 9, 2) := by decide +kernel
theorem d1_164 : decode prog_86_method_2_code 164 = .ok (.if_icmp .le 27, 3) := by decide +kernel
theorem d1_167 : decode prog_86_method_2_code 167 = .ok (.iload_n 0, 1) := by decide +kernel
theorem d1_168 : decode prog_86_method_2_code 168 = .ok (.ldc 10, 2) := by decide +kernel
theorem d1_170 : decode prog_86_method_2_code 170 = .ok (.if_icmp .lt 9, 3) := by decide +kernel
theorem d1_173 : decode prog_86_method_2_code 173 = .ok (.iload_n 0, 1) := by decide +kernel
theorem d1_174 : decode prog_86_method_2_code 174 = .ok (.ldc 11, 2) := by decide +kernel
theorem d1_176 : decode prog_86_method_2_code 176 = .ok (.if_icmp .le 15, 3) := by decide +kernel
theorem d1_179 : decode prog_86_method_2_code 179 = .ok (.iload_n 0, 1) := by decide +kernel
theorem d1_180 : decode prog_86_method_2_code 180 = .ok (.ldc 12, 2) := by decide +kernel
theorem d1_182 : decode prog_86_method_2_code 182 = .ok (.if_icmp .lt 13, 3) := by decide +kernel
theorem d1_185 : decode prog_86_method_2_code 185 = .ok (.iload_n 0, 1) := by decide +kernel
theorem d1_186 : decode prog_86_method_2_code 186 = .ok (.ldc 13, 2) := by decide +kernel
theorem d1_188 : decode prog_86_method_2_code 188 = .ok (.if_icmp .gt 7, 3) := by decide +kernel
theorem d1_191 : decode prog_86_method_2_code 191 = .ok (.iconst 1, 1) := by decide +kernel
theorem d1_192 : decode prog_86_method_2_code 192 = .ok (.goto 4, 3) := by decide +kernel
theorem d1_195 : decode prog_86_method_2_code 195 = .ok (.iconst 0, 1) := by decide +kernel
theorem d1_196 : decode prog_86_method_2_code 196 = .ok (.ireturn, 1) := by decide +kernel
abbrev Y1 : MethodName := ⟨"com/example/sleyreed/sleyreed/xpath/Names", "isNameStart", "(I)Z"⟩
def RM1 : Room := { frames := 0, cells := 0, slots := 0, locals := 0 }
theorem pd_1 : parseMethodDescriptor Y1.desc = some ⟨[.int], some .boolean⟩ := by decide +kernel
theorem pn_1 : plainName "com/example/sleyreed/sleyreed/xpath/Names" = true := by first | (simp [plainName, overriddenIn]; done) | decide +kernel
theorem ef_1 (m : MethodId) (x0 : Int32) : entryFrame m #[.int x0] 1 = mkF m 0 #[.val (.int x0)] [] := by first | (simp [entryFrame, mkF, argsToLocals, Value.category]; done) | rfl
set_option maxRecDepth 65536 in
set_option maxHeartbeats 40000000 in
theorem rm1 (l : Launch) (Z : State) (a0 : Array Value) (hw : ∀ d ∈ tables_1, d.before a0 Z = true) (x0 : Int32)  (h0 : Heap) (r : Int32) (hf : f1_0 x0 = some r)  :
    MetFree l Y1 (head1 ([Jvm.Cond.code Y1 prog_86_method_2_code 1 (some .boolean)]) RM1) (fun a U => a = #[.int x0] ∧ Z.Warmed39 U.vm ∧ U.heap = h0) (fun _ _ _ _ _ => True) (fun _ U o U' => ∃ v L, o = .returned v ∧ (PQ h0 (some (.int r))) v U'.heap L ∧ FrameEnd U o U' L RM1.cells RM1.slots) := by
  refine MetFree.of_bodySF (plainFor_of_name pn_1) hisR ?_
  intro p e s m args below meth c s₁ Bd hml0 hP hK
  obtain ⟨rfl, hZ, hh⟩ := hP
  have hx := Bd.exec
  have hby := Bd.bytes
  have hlk : meth.locks = false := BodyLoose.notSynchronized Bd
  have hret := Bd.returns
  have hml : c.maxLocals = 1 := hml0
  have hown : s.vm.findClass "com/example/sleyreed/sleyreed/xpath/Names" = some m.cls := findClass_of_methodNamed Bd.named
  have X0 : Stand p l e RM1 s m #[.int x0] below meth c s₁ [] 0 0 := Stand.of_body Bd
  have e0 : s₁.heap = h0 := by rw [← hh, Bd.state]; rfl
  suffices G : Go p e below s RM1.cells RM1.slots (PQ h0 (some (.int r))) m s₁ 0 #[.val (.int x0)] [] by
    obtain ⟨s₂, o, h1, h2⟩ := G
    exact ⟨s₂, o, castTop (ef_1 m x0) h1, h2⟩
  have hf0 := hf
  clear hf
  have B179 : ∀ (T : State), Stand p l e RM1 s m #[.int x0] below meth c T [] 0 0 → T.heap = h0 → ∀ (x0 : Int32), f1_179 x0 = some r → Go p e below s RM1.cells RM1.slots (PQ h0 (some (.int r))) m T 179 #[.val (.int x0)] [] := by
    intro T30 X30 e30 x0 hf
    unfold f1_179 at hf
    refine Go.iloadN X30 hx hby (v := x0) d1_179 rfl rfl ?_
    refine Go.ldcI X30 hx hby hZ (v := (65536 : Int32)) hown (hw _ (List.mem_of_getElem? (i := 7) rfl)) d1_180 rfl ?_
    refine Go.icmp_lt X30 hx hby (pc' := 195) d1_182 (by decide) (by decide) rfl (fun hc31 => ?_) (fun hc31 => ?_)
    · replace hf := (if_pos hc31).symm.trans hf
      refine Go.iconst X30 hx hby (v := (0 : Int32)) d1_195 rfl rfl ?_
      exact Go.iretN X30 hx hby hlk hret (Or.inl rfl) (w' := (0 : Int32)) rfl d1_196 (by decide) (by decide) ⟨congrArg (fun z => some (Value.int z)) (Option.some.inj hf), rfl, e30⟩
    · replace hf := (if_neg hc31).symm.trans hf
      refine Go.iloadN X30 hx hby (v := x0) d1_185 rfl rfl ?_
      refine Go.ldcI X30 hx hby hZ (v := (983039 : Int32)) hown (hw _ (List.mem_of_getElem? (i := 17) rfl)) d1_186 rfl ?_
      refine Go.icmp_gt X30 hx hby (pc' := 195) d1_188 (by decide) (by decide) rfl (fun hc32 => ?_) (fun hc32 => ?_)
      · replace hf := (if_pos hc32).symm.trans hf
        refine Go.iconst X30 hx hby (v := (0 : Int32)) d1_195 rfl rfl ?_
        exact Go.iretN X30 hx hby hlk hret (Or.inl rfl) (w' := (0 : Int32)) rfl d1_196 (by decide) (by decide) ⟨congrArg (fun z => some (Value.int z)) (Option.some.inj hf), rfl, e30⟩
      · replace hf := (if_neg hc32).symm.trans hf
        refine Go.iconst X30 hx hby (v := (1 : Int32)) d1_191 rfl rfl ?_
        refine Go.goto X30 hx hby (pc' := 196) d1_192 (by decide) (by decide) ?_
        exact Go.iretN X30 hx hby hlk hret (Or.inl rfl) (w' := (1 : Int32)) rfl d1_196 (by decide) (by decide) ⟨congrArg (fun z => some (Value.int z)) (Option.some.inj hf), rfl, e30⟩
  have B167 : ∀ (T : State), Stand p l e RM1 s m #[.int x0] below meth c T [] 0 0 → T.heap = h0 → ∀ (x0 : Int32), f1_167 x0 = some r → Go p e below s RM1.cells RM1.slots (PQ h0 (some (.int r))) m T 167 #[.val (.int x0)] [] := by
    intro T33 X33 e33 x0 hf
    unfold f1_167 at hf
    refine Go.iloadN X33 hx hby (v := x0) d1_167 rfl rfl ?_
    refine Go.ldcI X33 hx hby hZ (v := (65008 : Int32)) hown (hw _ (List.mem_of_getElem? (i := 6) rfl)) d1_168 rfl ?_
    refine Go.icmp_lt X33 hx hby (pc' := 179) d1_170 (by decide) (by decide) rfl (fun hc34 => ?_) (fun hc34 => ?_)
    · replace hf := (if_pos hc34).symm.trans hf
      exact B179 T33 X33 e33 x0 hf
    · replace hf := (if_neg hc34).symm.trans hf
      refine Go.iloadN X33 hx hby (v := x0) d1_173 rfl rfl ?_
      refine Go.ldcI X33 hx hby hZ (v := (65533 : Int32)) hown (hw _ (List.mem_of_getElem? (i := 16) rfl)) d1_174 rfl ?_
      refine Go.icmp_le X33 hx hby (pc' := 191) d1_176 (by decide) (by decide) rfl (fun hc35 => ?_) (fun hc35 => ?_)
      · replace hf := (if_neg hc35).symm.trans hf
        refine Go.iconst X33 hx hby (v := (1 : Int32)) d1_191 rfl rfl ?_
        refine Go.goto X33 hx hby (pc' := 196) d1_192 (by decide) (by decide) ?_
        exact Go.iretN X33 hx hby hlk hret (Or.inl rfl) (w' := (1 : Int32)) rfl d1_196 (by decide) (by decide) ⟨congrArg (fun z => some (Value.int z)) (Option.some.inj hf), rfl, e33⟩
      · replace hf := (if_pos hc35).symm.trans hf
        exact B179 T33 X33 e33 x0 hf
  have B155 : ∀ (T : State), Stand p l e RM1 s m #[.int x0] below meth c T [] 0 0 → T.heap = h0 → ∀ (x0 : Int32), f1_155 x0 = some r → Go p e below s RM1.cells RM1.slots (PQ h0 (some (.int r))) m T 155 #[.val (.int x0)] [] := by
    intro T36 X36 e36 x0 hf
    unfold f1_155 at hf
    refine Go.iloadN X36 hx hby (v := x0) d1_155 rfl rfl ?_
    refine Go.ldcI X36 hx hby hZ (v := (63744 : Int32)) hown (hw _ (List.mem_of_getElem? (i := 5) rfl)) d1_156 rfl ?_
    refine Go.icmp_lt X36 hx hby (pc' := 167) d1_158 (by decide) (by decide) rfl (fun hc37 => ?_) (fun hc37 => ?_)
    · replace hf := (if_pos hc37).symm.trans hf
      exact B167 T36 X36 e36 x0 hf
    · replace hf := (if_neg hc37).symm.trans hf
      refine Go.iloadN X36 hx hby (v := x0) d1_161 rfl rfl ?_
      refine Go.ldcI X36 hx hby hZ (v := (64975 : Int32)) hown (hw _ (List.mem_of_getElem? (i := 15) rfl)) d1_162 rfl ?_
      refine Go.icmp_le X36 hx hby (pc' := 191) d1_164 (by decide) (by decide) rfl (fun hc38 => ?_) (fun hc38 => ?_)
      · replace hf := (if_neg hc38).symm.trans hf
        refine Go.iconst X36 hx hby (v := (1 : Int32)) d1_191 rfl rfl ?_
        refine Go.goto X36 hx hby (pc' := 196) d1_192 (by decide) (by decide) ?_
        exact Go.iretN X36 hx hby hlk hret (Or.inl rfl) (w' := (1 : Int32)) rfl d1_196 (by decide) (by decide) ⟨congrArg (fun z => some (Value.int z)) (Option.some.inj hf), rfl, e36⟩
      · replace hf := (if_pos hc38).symm.trans hf
        exact B167 T36 X36 e36 x0 hf
  have B142 : ∀ (T : State), Stand p l e RM1 s m #[.int x0] below meth c T [] 0 0 → T.heap = h0 → ∀ (x0 : Int32), f1_142 x0 = some r → Go p e below s RM1.cells RM1.slots (PQ h0 (some (.int r))) m T 142 #[.val (.int x0)] [] := by
    intro T39 X39 e39 x0 hf
    unfold f1_142 at hf
    refine Go.iloadN X39 hx hby (v := x0) d1_142 rfl rfl ?_
    refine Go.sipush X39 hx hby (v := (12289 : Int32)) d1_143 rfl rfl ?_
    refine Go.icmp_lt X39 hx hby (pc' := 155) d1_146 (by decide) (by decide) rfl (fun hc40 => ?_) (fun hc40 => ?_)
    · replace hf := (if_pos hc40).symm.trans hf
      exact B155 T39 X39 e39 x0 hf
    · replace hf := (if_neg hc40).symm.trans hf
      refine Go.iloadN X39 hx hby (v := x0) d1_149 rfl rfl ?_
      refine Go.ldcI X39 hx hby hZ (v := (55295 : Int32)) hown (hw _ (List.mem_of_getElem? (i := 14) rfl)) d1_150 rfl ?_
      refine Go.icmp_le X39 hx hby (pc' := 191) d1_152 (by decide) (by decide) rfl (fun hc41 => ?_) (fun hc41 => ?_)
      · replace hf := (if_neg hc41).symm.trans hf
        refine Go.iconst X39 hx hby (v := (1 : Int32)) d1_191 rfl rfl ?_
        refine Go.goto X39 hx hby (pc' := 196) d1_192 (by decide) (by decide) ?_
        exact Go.iretN X39 hx hby hlk hret (Or.inl rfl) (w' := (1 : Int32)) rfl d1_196 (by decide) (by decide) ⟨congrArg (fun z => some (Value.int z)) (Option.some.inj hf), rfl, e39⟩
      · replace hf := (if_pos hc41).symm.trans hf
        exact B155 T39 X39 e39 x0 hf
  have B128 : ∀ (T : State), Stand p l e RM1 s m #[.int x0] below meth c T [] 0 0 → T.heap = h0 → ∀ (x0 : Int32), f1_128 x0 = some r → Go p e below s RM1.cells RM1.slots (PQ h0 (some (.int r))) m T 128 #[.val (.int x0)] [] := by
    intro T42 X42 e42 x0 hf
    unfold f1_128 at hf
    refine Go.iloadN X42 hx hby (v := x0) d1_128 rfl rfl ?_
    refine Go.sipush X42 hx hby (v := (11264 : Int32)) d1_129 rfl rfl ?_
    refine Go.icmp_lt X42 hx hby (pc' := 142) d1_132 (by decide) (by decide) rfl (fun hc43 => ?_) (fun hc43 => ?_)
    · replace hf := (if_pos hc43).symm.trans hf
      exact B142 T42 X42 e42 x0 hf
    · replace hf := (if_neg hc43).symm.trans hf
      refine Go.iloadN X42 hx hby (v := x0) d1_135 rfl rfl ?_
      refine Go.sipush X42 hx hby (v := (12271 : Int32)) d1_136 rfl rfl ?_
      refine Go.icmp_le X42 hx hby (pc' := 191) d1_139 (by decide) (by decide) rfl (fun hc44 => ?_) (fun hc44 => ?_)
      · replace hf := (if_neg hc44).symm.trans hf
        refine Go.iconst X42 hx hby (v := (1 : Int32)) d1_191 rfl rfl ?_
        refine Go.goto X42 hx hby (pc' := 196) d1_192 (by decide) (by decide) ?_
        exact Go.iretN X42 hx hby hlk hret (Or.inl rfl) (w' := (1 : Int32)) rfl d1_196 (by decide) (by decide) ⟨congrArg (fun z => some (Value.int z)) (Option.some.inj hf), rfl, e42⟩
      · replace hf := (if_pos hc44).symm.trans hf
        exact B142 T42 X42 e42 x0 hf
  have B100 : ∀ (T : State), Stand p l e RM1 s m #[.int x0] below meth c T [] 0 0 → T.heap = h0 → ∀ (x0 : Int32), f1_100 x0 = some r → Go p e below s RM1.cells RM1.slots (PQ h0 (some (.int r))) m T 100 #[.val (.int x0)] [] := by
    intro T45 X45 e45 x0 hf
    unfold f1_100 at hf
    refine Go.iloadN X45 hx hby (v := x0) d1_100 rfl rfl ?_
    refine Go.sipush X45 hx hby (v := (8204 : Int32)) d1_101 rfl rfl ?_
    refine Go.icmp_eq X45 hx hby (pc' := 191) d1_104 (by decide) (by decide) rfl (fun hc46 => ?_) (fun hc46 => ?_)
    · replace hf := (if_pos hc46).symm.trans hf
      refine Go.iconst X45 hx hby (v := (1 : Int32)) d1_191 rfl rfl ?_
      refine Go.goto X45 hx hby (pc' := 196) d1_192 (by decide) (by decide) ?_
      exact Go.iretN X45 hx hby hlk hret (Or.inl rfl) (w' := (1 : Int32)) rfl d1_196 (by decide) (by decide) ⟨congrArg (fun z => some (Value.int z)) (Option.some.inj hf), rfl, e45⟩
    · replace hf := (if_neg hc46).symm.trans hf
      refine Go.iloadN X45 hx hby (v := x0) d1_107 rfl rfl ?_
      refine Go.sipush X45 hx hby (v := (8205 : Int32)) d1_108 rfl rfl ?_
      refine Go.icmp_eq X45 hx hby (pc' := 191) d1_111 (by decide) (by decide) rfl (fun hc47 => ?_) (fun hc47 => ?_)
      · replace hf := (if_pos hc47).symm.trans hf
        refine Go.iconst X45 hx hby (v := (1 : Int32)) d1_191 rfl rfl ?_
        refine Go.goto X45 hx hby (pc' := 196) d1_192 (by decide) (by decide) ?_
        exact Go.iretN X45 hx hby hlk hret (Or.inl rfl) (w' := (1 : Int32)) rfl d1_196 (by decide) (by decide) ⟨congrArg (fun z => some (Value.int z)) (Option.some.inj hf), rfl, e45⟩
      · replace hf := (if_neg hc47).symm.trans hf
        refine Go.iloadN X45 hx hby (v := x0) d1_114 rfl rfl ?_
        refine Go.sipush X45 hx hby (v := (8304 : Int32)) d1_115 rfl rfl ?_
        refine Go.icmp_lt X45 hx hby (pc' := 128) d1_118 (by decide) (by decide) rfl (fun hc48 => ?_) (fun hc48 => ?_)
        · replace hf := (if_pos hc48).symm.trans hf
          exact B128 T45 X45 e45 x0 hf
        · replace hf := (if_neg hc48).symm.trans hf
          refine Go.iloadN X45 hx hby (v := x0) d1_121 rfl rfl ?_
          refine Go.sipush X45 hx hby (v := (8591 : Int32)) d1_122 rfl rfl ?_
          refine Go.icmp_le X45 hx hby (pc' := 191) d1_125 (by decide) (by decide) rfl (fun hc49 => ?_) (fun hc49 => ?_)
          · replace hf := (if_neg hc49).symm.trans hf
            refine Go.iconst X45 hx hby (v := (1 : Int32)) d1_191 rfl rfl ?_
            refine Go.goto X45 hx hby (pc' := 196) d1_192 (by decide) (by decide) ?_
            exact Go.iretN X45 hx hby hlk hret (Or.inl rfl) (w' := (1 : Int32)) rfl d1_196 (by decide) (by decide) ⟨congrArg (fun z => some (Value.int z)) (Option.some.inj hf), rfl, e45⟩
          · replace hf := (if_pos hc49).symm.trans hf
            exact B128 T45 X45 e45 x0 hf
  have B86 : ∀ (T : State), Stand p l e RM1 s m #[.int x0] below meth c T [] 0 0 → T.heap = h0 → ∀ (x0 : Int32), f1_86 x0 = some r → Go p e below s RM1.cells RM1.slots (PQ h0 (some (.int r))) m T 86 #[.val (.int x0)] [] := by
    intro T50 X50 e50 x0 hf
    unfold f1_86 at hf
    refine Go.iloadN X50 hx hby (v := x0) d1_86 rfl rfl ?_
    refine Go.sipush X50 hx hby (v := (895 : Int32)) d1_87 rfl rfl ?_
    refine Go.icmp_lt X50 hx hby (pc' := 100) d1_90 (by decide) (by decide) rfl (fun hc51 => ?_) (fun hc51 => ?_)
    · replace hf := (if_pos hc51).symm.trans hf
      exact B100 T50 X50 e50 x0 hf
    · replace hf := (if_neg hc51).symm.trans hf
      refine Go.iloadN X50 hx hby (v := x0) d1_93 rfl rfl ?_
      refine Go.sipush X50 hx hby (v := (8191 : Int32)) d1_94 rfl rfl ?_
      refine Go.icmp_le X50 hx hby (pc' := 191) d1_97 (by decide) (by decide) rfl (fun hc52 => ?_) (fun hc52 => ?_)
      · replace hf := (if_neg hc52).symm.trans hf
        refine Go.iconst X50 hx hby (v := (1 : Int32)) d1_191 rfl rfl ?_
        refine Go.goto X50 hx hby (pc' := 196) d1_192 (by decide) (by decide) ?_
        exact Go.iretN X50 hx hby hlk hret (Or.inl rfl) (w' := (1 : Int32)) rfl d1_196 (by decide) (by decide) ⟨congrArg (fun z => some (Value.int z)) (Option.some.inj hf), rfl, e50⟩
      · replace hf := (if_pos hc52).symm.trans hf
        exact B100 T50 X50 e50 x0 hf
  have B72 : ∀ (T : State), Stand p l e RM1 s m #[.int x0] below meth c T [] 0 0 → T.heap = h0 → ∀ (x0 : Int32), f1_72 x0 = some r → Go p e below s RM1.cells RM1.slots (PQ h0 (some (.int r))) m T 72 #[.val (.int x0)] [] := by
    intro T53 X53 e53 x0 hf
    unfold f1_72 at hf
    refine Go.iloadN X53 hx hby (v := x0) d1_72 rfl rfl ?_
    refine Go.sipush X53 hx hby (v := (880 : Int32)) d1_73 rfl rfl ?_
    refine Go.icmp_lt X53 hx hby (pc' := 86) d1_76 (by decide) (by decide) rfl (fun hc54 => ?_) (fun hc54 => ?_)
    · replace hf := (if_pos hc54).symm.trans hf
      exact B86 T53 X53 e53 x0 hf
    · replace hf := (if_neg hc54).symm.trans hf
      refine Go.iloadN X53 hx hby (v := x0) d1_79 rfl rfl ?_
      refine Go.sipush X53 hx hby (v := (893 : Int32)) d1_80 rfl rfl ?_
      refine Go.icmp_le X53 hx hby (pc' := 191) d1_83 (by decide) (by decide) rfl (fun hc55 => ?_) (fun hc55 => ?_)
      · replace hf := (if_neg hc55).symm.trans hf
        refine Go.iconst X53 hx hby (v := (1 : Int32)) d1_191 rfl rfl ?_
        refine Go.goto X53 hx hby (pc' := 196) d1_192 (by decide) (by decide) ?_
        exact Go.iretN X53 hx hby hlk hret (Or.inl rfl) (w' := (1 : Int32)) rfl d1_196 (by decide) (by decide) ⟨congrArg (fun z => some (Value.int z)) (Option.some.inj hf), rfl, e53⟩
      · replace hf := (if_pos hc55).symm.trans hf
        exact B86 T53 X53 e53 x0 hf
  have B58 : ∀ (T : State), Stand p l e RM1 s m #[.int x0] below meth c T [] 0 0 → T.heap = h0 → ∀ (x0 : Int32), f1_58 x0 = some r → Go p e below s RM1.cells RM1.slots (PQ h0 (some (.int r))) m T 58 #[.val (.int x0)] [] := by
    intro T56 X56 e56 x0 hf
    unfold f1_58 at hf
    refine Go.iloadN X56 hx hby (v := x0) d1_58 rfl rfl ?_
    refine Go.sipush X56 hx hby (v := (248 : Int32)) d1_59 rfl rfl ?_
    refine Go.icmp_lt X56 hx hby (pc' := 72) d1_62 (by decide) (by decide) rfl (fun hc57 => ?_) (fun hc57 => ?_)
    · replace hf := (if_pos hc57).symm.trans hf
      exact B72 T56 X56 e56 x0 hf
    · replace hf := (if_neg hc57).symm.trans hf
      refine Go.iloadN X56 hx hby (v := x0) d1_65 rfl rfl ?_
      refine Go.sipush X56 hx hby (v := (767 : Int32)) d1_66 rfl rfl ?_
      refine Go.icmp_le X56 hx hby (pc' := 191) d1_69 (by decide) (by decide) rfl (fun hc58 => ?_) (fun hc58 => ?_)
      · replace hf := (if_neg hc58).symm.trans hf
        refine Go.iconst X56 hx hby (v := (1 : Int32)) d1_191 rfl rfl ?_
        refine Go.goto X56 hx hby (pc' := 196) d1_192 (by decide) (by decide) ?_
        exact Go.iretN X56 hx hby hlk hret (Or.inl rfl) (w' := (1 : Int32)) rfl d1_196 (by decide) (by decide) ⟨congrArg (fun z => some (Value.int z)) (Option.some.inj hf), rfl, e56⟩
      · replace hf := (if_pos hc58).symm.trans hf
        exact B72 T56 X56 e56 x0 hf
  have B44 : ∀ (T : State), Stand p l e RM1 s m #[.int x0] below meth c T [] 0 0 → T.heap = h0 → ∀ (x0 : Int32), f1_44 x0 = some r → Go p e below s RM1.cells RM1.slots (PQ h0 (some (.int r))) m T 44 #[.val (.int x0)] [] := by
    intro T59 X59 e59 x0 hf
    unfold f1_44 at hf
    refine Go.iloadN X59 hx hby (v := x0) d1_44 rfl rfl ?_
    refine Go.sipush X59 hx hby (v := (216 : Int32)) d1_45 rfl rfl ?_
    refine Go.icmp_lt X59 hx hby (pc' := 58) d1_48 (by decide) (by decide) rfl (fun hc60 => ?_) (fun hc60 => ?_)
    · replace hf := (if_pos hc60).symm.trans hf
      exact B58 T59 X59 e59 x0 hf
    · replace hf := (if_neg hc60).symm.trans hf
      refine Go.iloadN X59 hx hby (v := x0) d1_51 rfl rfl ?_
      refine Go.sipush X59 hx hby (v := (246 : Int32)) d1_52 rfl rfl ?_
      refine Go.icmp_le X59 hx hby (pc' := 191) d1_55 (by decide) (by decide) rfl (fun hc61 => ?_) (fun hc61 => ?_)
      · replace hf := (if_neg hc61).symm.trans hf
        refine Go.iconst X59 hx hby (v := (1 : Int32)) d1_191 rfl rfl ?_
        refine Go.goto X59 hx hby (pc' := 196) d1_192 (by decide) (by decide) ?_
        exact Go.iretN X59 hx hby hlk hret (Or.inl rfl) (w' := (1 : Int32)) rfl d1_196 (by decide) (by decide) ⟨congrArg (fun z => some (Value.int z)) (Option.some.inj hf), rfl, e59⟩
      · replace hf := (if_pos hc61).symm.trans hf
        exact B58 T59 X59 e59 x0 hf
  have B24 : ∀ (T : State), Stand p l e RM1 s m #[.int x0] below meth c T [] 0 0 → T.heap = h0 → ∀ (x0 : Int32), f1_24 x0 = some r → Go p e below s RM1.cells RM1.slots (PQ h0 (some (.int r))) m T 24 #[.val (.int x0)] [] := by
    intro T62 X62 e62 x0 hf
    unfold f1_24 at hf
    refine Go.iloadN X62 hx hby (v := x0) d1_24 rfl rfl ?_
    refine Go.bipush X62 hx hby (v := (95 : Int32)) d1_25 rfl rfl ?_
    refine Go.icmp_eq X62 hx hby (pc' := 191) d1_27 (by decide) (by decide) rfl (fun hc63 => ?_) (fun hc63 => ?_)
    · replace hf := (if_pos hc63).symm.trans hf
      refine Go.iconst X62 hx hby (v := (1 : Int32)) d1_191 rfl rfl ?_
      refine Go.goto X62 hx hby (pc' := 196) d1_192 (by decide) (by decide) ?_
      exact Go.iretN X62 hx hby hlk hret (Or.inl rfl) (w' := (1 : Int32)) rfl d1_196 (by decide) (by decide) ⟨congrArg (fun z => some (Value.int z)) (Option.some.inj hf), rfl, e62⟩
    · replace hf := (if_neg hc63).symm.trans hf
      refine Go.iloadN X62 hx hby (v := x0) d1_30 rfl rfl ?_
      refine Go.sipush X62 hx hby (v := (192 : Int32)) d1_31 rfl rfl ?_
      refine Go.icmp_lt X62 hx hby (pc' := 44) d1_34 (by decide) (by decide) rfl (fun hc64 => ?_) (fun hc64 => ?_)
      · replace hf := (if_pos hc64).symm.trans hf
        exact B44 T62 X62 e62 x0 hf
      · replace hf := (if_neg hc64).symm.trans hf
        refine Go.iloadN X62 hx hby (v := x0) d1_37 rfl rfl ?_
        refine Go.sipush X62 hx hby (v := (214 : Int32)) d1_38 rfl rfl ?_
        refine Go.icmp_le X62 hx hby (pc' := 191) d1_41 (by decide) (by decide) rfl (fun hc65 => ?_) (fun hc65 => ?_)
        · replace hf := (if_neg hc65).symm.trans hf
          refine Go.iconst X62 hx hby (v := (1 : Int32)) d1_191 rfl rfl ?_
          refine Go.goto X62 hx hby (pc' := 196) d1_192 (by decide) (by decide) ?_
          exact Go.iretN X62 hx hby hlk hret (Or.inl rfl) (w' := (1 : Int32)) rfl d1_196 (by decide) (by decide) ⟨congrArg (fun z => some (Value.int z)) (Option.some.inj hf), rfl, e62⟩
        · replace hf := (if_pos hc65).symm.trans hf
          exact B44 T62 X62 e62 x0 hf
  have B12 : ∀ (T : State), Stand p l e RM1 s m #[.int x0] below meth c T [] 0 0 → T.heap = h0 → ∀ (x0 : Int32), f1_12 x0 = some r → Go p e below s RM1.cells RM1.slots (PQ h0 (some (.int r))) m T 12 #[.val (.int x0)] [] := by
    intro T66 X66 e66 x0 hf
    unfold f1_12 at hf
    refine Go.iloadN X66 hx hby (v := x0) d1_12 rfl rfl ?_
    refine Go.bipush X66 hx hby (v := (65 : Int32)) d1_13 rfl rfl ?_
    refine Go.icmp_lt X66 hx hby (pc' := 24) d1_15 (by decide) (by decide) rfl (fun hc67 => ?_) (fun hc67 => ?_)
    · replace hf := (if_pos hc67).symm.trans hf
      exact B24 T66 X66 e66 x0 hf
    · replace hf := (if_neg hc67).symm.trans hf
      refine Go.iloadN X66 hx hby (v := x0) d1_18 rfl rfl ?_
      refine Go.bipush X66 hx hby (v := (90 : Int32)) d1_19 rfl rfl ?_
      refine Go.icmp_le X66 hx hby (pc' := 191) d1_21 (by decide) (by decide) rfl (fun hc68 => ?_) (fun hc68 => ?_)
      · replace hf := (if_neg hc68).symm.trans hf
        refine Go.iconst X66 hx hby (v := (1 : Int32)) d1_191 rfl rfl ?_
        refine Go.goto X66 hx hby (pc' := 196) d1_192 (by decide) (by decide) ?_
        exact Go.iretN X66 hx hby hlk hret (Or.inl rfl) (w' := (1 : Int32)) rfl d1_196 (by decide) (by decide) ⟨congrArg (fun z => some (Value.int z)) (Option.some.inj hf), rfl, e66⟩
      · replace hf := (if_pos hc68).symm.trans hf
        exact B24 T66 X66 e66 x0 hf
  have hf := hf0
  unfold f1_0 at hf
  refine Go.iloadN X0 hx hby (v := x0) d1_0 rfl rfl ?_
  refine Go.bipush X0 hx hby (v := (97 : Int32)) d1_1 rfl rfl ?_
  refine Go.icmp_lt X0 hx hby (pc' := 12) d1_3 (by decide) (by decide) rfl (fun hc69 => ?_) (fun hc69 => ?_)
  · replace hf := (if_pos hc69).symm.trans hf
    exact B12 s₁ X0 e0 x0 hf
  · replace hf := (if_neg hc69).symm.trans hf
    refine Go.iloadN X0 hx hby (v := x0) d1_6 rfl rfl ?_
    refine Go.bipush X0 hx hby (v := (122 : Int32)) d1_7 rfl rfl ?_
    refine Go.icmp_le X0 hx hby (pc' := 191) d1_9 (by decide) (by decide) rfl (fun hc70 => ?_) (fun hc70 => ?_)
    · replace hf := (if_neg hc70).symm.trans hf
      refine Go.iconst X0 hx hby (v := (1 : Int32)) d1_191 rfl rfl ?_
      refine Go.goto X0 hx hby (pc' := 196) d1_192 (by decide) (by decide) ?_
      exact Go.iretN X0 hx hby hlk hret (Or.inl rfl) (w' := (1 : Int32)) rfl d1_196 (by decide) (by decide) ⟨congrArg (fun z => some (Value.int z)) (Option.some.inj hf), rfl, e0⟩
    · replace hf := (if_pos hc70).symm.trans hf
      exact B12 s₁ X0 e0 x0 hf
-- body 2
def f2_34 (x0 : Int32) : Option (Int32) := if x0 = (96 : Int32) then some (1 : Int32) else if x0 < (123 : Int32) then some (0 : Int32) else some (1 : Int32)
def f2_107 (x0 : Int32) : Option (Int32) := if x0 = (894 : Int32) then some (1 : Int32) else some (0 : Int32)
def f2_169 (x0 : Int32) : Option (Int32) := if x0 < (12272 : Int32) then some (0 : Int32) else some (1 : Int32)
def f2_155 (x0 : Int32) : Option (Int32) := if x0 < (8592 : Int32) then f2_169 x0 else if (11263 : Int32) < x0 then f2_169 x0 else some (1 : Int32)
def f2_141 (x0 : Int32) : Option (Int32) := if x0 < (8206 : Int32) then f2_155 x0 else if (8303 : Int32) < x0 then f2_155 x0 else some (1 : Int32)
def f2_219 (x0 : Int32) : Option (Int32) := if x0 < (65534 : Int32) then some (0 : Int32) else some (1 : Int32)
def f2_207 (x0 : Int32) : Option (Int32) := if x0 < (64976 : Int32) then f2_219 x0 else if (65007 : Int32) < x0 then f2_219 x0 else some (1 : Int32)
def f2_0 (x0 : Int32) : Option (Int32) := if x0 < (65 : Int32) then some (1 : Int32) else if (983039 : Int32) < x0 then some (1 : Int32) else if (127 : Int32) < x0 then if (255 : Int32) < x0 then if (8191 : Int32) < x0 then if (12287 : Int32) < x0 then if (65535 : Int32) < x0 then some (0 : Int32) else if x0 = (12288 : Int32) then some (1 : Int32) else if x0 < (55296 : Int32) then f2_207 x0 else if (63743 : Int32) < x0 then f2_207 x0 else some (1 : Int32) else if x0 < (8192 : Int32) then f2_141 x0 else if (8203 : Int32) < x0 then f2_141 x0 else some (1 : Int32) else if x0 < (768 : Int32) then f2_107 x0 else if (879 : Int32) < x0 then f2_107 x0 else some (1 : Int32) else if (191 : Int32) < x0 then if x0 = (215 : Int32) then some (1 : Int32) else if x0 = (247 : Int32) then some (1 : Int32) else some (0 : Int32) else some (1 : Int32) else if x0 < (91 : Int32) then f2_34 x0 else if (94 : Int32) < x0 then f2_34 x0 else some (1 : Int32)
theorem d2_0 : decode method_3_code 0 = .ok (.iload_n 0, 1) := by decide +kernel
theorem d2_1 : decode method_3_code 1 = .ok (.bipush 65, 2) := by decide +kernel
theorem d2_3 : decode method_3_code 3 = .ok (.if_icmp .ge 5, 3) := by decide +kernel
theorem d2_6 : decode method_3_code 6 = .ok (.iconst 1, 1) := by decide +kernel
theorem d2_7 : decode method_3_code 7 = .ok (.ireturn, 1) := by decide +kernel
theorem d2_8 : decode method_3_code 8 = .ok (.iload_n 0, 1) := by decide +kernel
theorem d2_9 : decode method_3_code 9 = .ok (.ldc 20, 2) := by decide +kernel
theorem d2_11 : decode method_3_code 11 = .ok (.if_icmp .le 5, 3) := by decide +kernel
theorem d2_14 : decode method_3_code 14 = .ok (.iconst 1, 1) := by decide +kernel
theorem d2_15 : decode method_3_code 15 = .ok (.ireturn, 1) := by decide +kernel
theorem d2_16 : decode method_3_code 16 = .ok (.iload_n 0, 1) := by decide +kernel
theorem d2_17 : decode method_3_code 17 = .ok (.bipush 127, 2) := by decide +kernel
theorem d2_19 : decode method_3_code 19 = .ok (.if_icmp .gt 33, 3) := by decide +kernel
theorem d2_22 : decode method_3_code 22 = .ok (.iload_n 0, 1) := by decide +kernel
theorem d2_23 : decode method_3_code 23 = .ok (.bipush 91, 2) := by decide +kernel
theorem d2_25 : decode method_3_code 25 = .ok (.if_icmp .lt 9, 3) := by decide +kernel
theorem d2_28 : decode method_3_code 28 = .ok (.iload_n 0, 1) := by decide +kernel
theorem d2_29 : decode method_3_code 29 = .ok (.bipush 94, 2) := by decide +kernel
theorem d2_31 : decode method_3_code 31 = .ok (.if_icmp .le 15, 3) := by decide +kernel
theorem d2_34 : decode method_3_code 34 = .ok (.iload_n 0, 1) := by decide +kernel
theorem d2_35 : decode method_3_code 35 = .ok (.bipush 96, 2) := by decide +kernel
theorem d2_37 : decode method_3_code 37 = .ok (.if_icmp .eq 9, 3) := by decide +kernel
theorem d2_40 : decode method_3_code 40 = .ok (.iload_n 0, 1) := by decide +kernel
theorem d2_41 : decode method_3_code 41 = .ok (.bipush 123, 2) := by decide +kernel
theorem d2_43 : decode method_3_code 43 = .ok (.if_icmp .lt 7, 3) := by decide +kernel
theorem d2_46 : decode method_3_code 46 = .ok (.iconst 1, 1) := by decide +kernel
theorem d2_47 : decode method_3_code 47 = .ok (.goto 4, 3) := by decide +kernel
theorem d2_50 : decode method_3_code 50 = .ok (.iconst 0, 1) := by decide +kernel
theorem d2_51 : decode method_3_code 51 = .ok (.ireturn, 1) := by decide +kernel
theorem d2_52 : decode method_3_code 52 = .ok (.iload_n 0, 1) := by decide +kernel
theorem d2_53 : decode method_3_code 53 = .ok (.sipush 255, 3) := by decide +kernel
theorem d2_56 : decode method_3_code 56 = .ok (.if_icmp .gt 30, 3) := by decide +kernel
theorem d2_59 : decode method_3_code 59 = .ok (.iload_n 0, 1) := by decide +kernel
theorem d2_60 : decode method_3_code 60 = .ok (.sipush 191, 3) := by decide +kernel
theorem d2_63 : decode method_3_code 63 = .ok (.if_icmp .le 17, 3) := by decide +kernel
theorem d2_66 : decode method_3_code 66 = .ok (.iload_n 0, 1) := by decide +kernel
theorem d2_67 : decode method_3_code 67 = .ok (.sipush 215, 3) := by decide +kernel
theorem d2_70 : decode method_3_code 70 = .ok (.if_icmp .eq 10, 3) := by decide +kernel
theorem d2_73 : decode method_3_code 73 = .ok (.iload_n 0, 1) := by decide +kernel
theorem d2_74 : decode method_3_code 74 = .ok (.sipush 247, 3) := by decide +kernel
theorem d2_77 : decode method_3_code 77 = .ok (.if_icmp .ne 7, 3) := by decide +kernel
theorem d2_80 : decode method_3_code 80 = .ok (.iconst 1, 1) := by decide +kernel
theorem d2_81 : decode method_3_code 81 = .ok (.goto 4, 3) := by decide +kernel
theorem d2_84 : decode method_3_code 84 = .ok (.iconst 0, 1) := by decide +kernel
theorem d2_85 : decode method_3_code 85 = .ok (.ireturn, 1) := by decide +kernel
theorem d2_86 : decode method_3_code 86 = .ok (.iload_n 0, 1) := by decide +kernel
theorem d2_87 : decode method_3_code 87 = .ok (.sipush 8191, 3) := by decide +kernel
theorem d2_90 : decode method_3_code 90 = .ok (.if_icmp .gt 30, 3) := by decide +kernel
theorem d2_93 : decode method_3_code 93 = .ok (.iload_n 0, 1) := by decide +kernel
theorem d2_94 : decode method_3_code 94 = .ok (.sipush 768, 3) := by decide +kernel
theorem d2_97 : decode method_3_code 97 = .ok (.if_icmp .lt 10, 3) := by decide +kernel
theorem d2_100 : decode method_3_code 100 = .ok (.iload_n 0, 1) := by decide +kernel
theorem d2_101 : decode method_3_code 101 = .ok (.sipush 879, 3) := by decide +kernel
theorem d2_104 : decode method_3_code 104 = .ok (.if_icmp .le 10, 3) := by decide +kernel
theorem d2_107 : decode method_3_code 107 = .ok (.iload_n 0, 1) := by decide +kernel
theorem d2_108 : decode method_3_code 108 = .ok (.sipush 894, 3) := by decide +kernel
theorem d2_111 : decode method_3_code 111 = .ok (.if_icmp .ne 7, 3) := by decide +kernel
theorem d2_114 : decode method_3_code 114 = .ok (.iconst 1, 1) := by decide +kernel
theorem d2_115 : decode method_3_code 115 = .ok (.goto 4, 3) := by decide +kernel
theorem d2_118 : decode method_3_code 118 = .ok (.iconst 0, 1) := by decide +kernel
theorem d2_119 : decode method_3_code 119 = .ok (.ireturn, 1) := by decide +kernel
theorem d2_120 : decode method_3_code 120 = .ok (.iload_n 0, 1) := by decide +kernel
theorem d2_121 : decode method_3_code 121 = .ok (.sipush 12287, 3) := by decide +kernel
theorem d2_124 : decode method_3_code 124 = .ok (.if_icmp .gt 58, 3) := by decide +kernel
theorem d2_127 : decode method_3_code 127 = .ok (.iload_n 0, 1) := by decide +kernel
theorem d2_128 : decode method_3_code 128 = .ok (.sipush 8192, 3) := by decide +kernel
theorem d2_131 : decode method_3_code 131 = .ok (.if_icmp .lt 10, 3) := by decide +kernel
theorem d2_134 : decode method_3_code 134 = .ok (.iload_n 0, 1) := by decide +kernel
theorem d2_135 : decode method_3_code 135 = .ok (.sipush 8203, 3) := by decide +kernel
theorem d2_138 : decode method_3_code 138 = .ok (.if_icmp .le 38, 3) := by decide +kernel
theorem d2_141 : decode method_3_code 141 = .ok (.iload_n 0, 1) := by decide +kernel
theorem d2_142 : decode method_3_code 142 = .ok (.sipush 8206, 3) := by decide +kernel
theorem d2_145 : decode method_3_code 145 = .ok (.if_icmp .lt 10, 3) := by decide +kernel
theorem d2_148 : decode method_3_code 148 = .ok (.iload_n 0, 1) := by decide +kernel
theorem d2_149 : decode method_3_code 149 = .ok (.sipush 8303, 3) := by decide +kernel
theorem d2_152 : decode method_3_code 152 = .ok (.if_icmp .le 24, 3) := by decide +kernel
theorem d2_155 : decode method_3_code 155 = .ok (.iload_n 0, 1) := by decide +kernel
theorem d2_156 : decode method_3_code 156 = .ok (.sipush 8592, 3) := by decide +kernel
theorem d2_159 : decode method_3_code 159 = .ok (.if_icmp .lt 10, 3) := by decide +kernel
theorem d2_162 : decode method_3_code 162 = .ok (.iload_n 0, 1) := by decide +kernel
theorem d2_163 : decode method_3_code 163 = .ok (.sipush 11263, 3) := by decide +kernel
theorem d2_166 : decode method_3_code 166 = .ok (.if_icmp .le 10, 3) := by decide +kernel
theorem d2_169 : decode method_3_code 169 = .ok (.iload_n 0, 1) := by decide +kernel
theorem d2_170 : decode method_3_code 170 = .ok (.sipush 12272, 3) := by decide +kernel
theorem d2_173 : decode method_3_code 173 = .ok (.if_icmp .lt 7, 3) := by decide +kernel
theorem d2_176 : decode method_3_code 176 = .ok (.iconst 1, 1) := by decide +kernel
theorem d2_177 : decode method_3_code 177 = .ok (.goto 4, 3) := by decide +kernel
theorem d2_180 : decode method_3_code 180 = .ok (.iconst 0, 1) := by decide +kernel
theorem d2_181 : decode method_3_code 181 = .ok (.ireturn, 1) := by decide +kernel
theorem d2_182 : decode method_3_code 182 = .ok (.iload_n 0, 1) := by decide +kernel
theorem d2_183 : decode method_3_code 183 = .ok (.ldc 7, 2) := by decide +kernel
theorem d2_185 : decode method_3_code 185 = .ok (.if_icmp .gt 46, 3) := by decide +kernel
theorem d2_188 : decode method_3_code 188 = .ok (.iload_n 0, 1) := by decide +kernel
theorem d2_189 : decode method_3_code 189 = .ok (.sipush 12288, 3) := by decide +kernel
theorem d2_192 : decode method_3_code 192 = .ok (.if_icmp .eq 33, 3) := by decide +kernel
theorem d2_195 : decode method_3_code 195 = .ok (.iload_n 0, 1) := by decide +kernel
theorem d2_196 : decode method_3_code 196 = .ok (.ldc 21, 2) := by decide +kernel
theorem d2_198 : decode method_3_code 198 = .ok (.if_icmp .lt 9, 3) := by decide +kernel
theorem d2_201 : decode method_3_code 201 = .ok (.iload_n 0, 1) := by decide +kernel
theorem d2_202 : decode method_3_code 202 = .ok (.ldc 22, 2) := by decide +kernel
theorem d2_204 : decode method_3_code 204 = .ok (.if_icmp .le 21, 3) := by decide +kernel
theorem d2_207 : decode method_3_code 207 = .ok (.iload_n 0, 1) := by decide +kernel
theorem d2_208 : decode method_3_code 208 = .ok (.ldc 23, 2) := by decide +kernel
theorem d2_210 : decode method_3_code 210 = .ok (.if_icmp .lt 9, 3) := by decide +kernel
theorem d2_213 : decode method_3_code 213 = .ok (.iload_n 0, 1) := by decide +kernel
theorem d2_214 : decode method_3_code 214 = .ok (.ldc 24, 2) := by decide +kernel
theorem d2_216 : decode method_3_code 216 = .ok (.if_icmp .le 9, 3) := by decide +kernel
theorem d2_219 : decode method_3_code 219 = .ok (.iload_n 0, 1) := by decide +kernel
theorem d2_220 : decode method_3_code 220 = .ok (.ldc 25, 2) := by decide +kernel
theorem d2_222 : decode method_3_code 222 = .ok (.if_icmp .lt 7, 3) := by decide +kernel
theorem d2_225 : decode method_3_code 225 = .ok (.iconst 1, 1) := by decide +kernel
theorem d2_226 : decode method_3_code 226 = .ok (.goto 4, 3) := by decide +kernel
theorem d2_229 : decode method_3_code 229 = .ok (.iconst 0, 1) := by decide +kernel
theorem d2_230 : decode method_3_code 230 = .ok (.ireturn, 1) := by decide +kernel
theorem d2_231 : decode method_3_code 231 = .ok (.iconst 0, 1) := by decide +kernel
theorem d2_232 : decode method_3_code 232 = .ok (.ireturn, 1) := by decide +kernel
abbrev Y2 : MethodName := ⟨"com/example/sleyreed/sleyreed/xpath/NamesIsNameStartPinLaw", "excluded", "(I)Z"⟩
def RM2 : Room := { frames := 0, cells := 0, slots := 0, locals := 0 }
theorem pd_2 : parseMethodDescriptor Y2.desc = some ⟨[.int], some .boolean⟩ := by decide +kernel
theorem pn_2 : plainName "com/example/sleyreed/sleyreed/xpath/NamesIsNameStartPinLaw" = true := by first | (simp [plainName, overriddenIn]; done) | decide +kernel
theorem ef_2 (m : MethodId) (x0 : Int32) : entryFrame m #[.int x0] 1 = mkF m 0 #[.val (.int x0)] [] := by first | (simp [entryFrame, mkF, argsToLocals, Value.category]; done) | rfl
set_option maxRecDepth 65536 in
set_option maxHeartbeats 40000000 in
theorem rm2 (l : Launch) (Z : State) (a0 : Array Value) (hw : ∀ d ∈ tables_1, d.before a0 Z = true) (x0 : Int32)  (h0 : Heap) (r : Int32) (hf : f2_0 x0 = some r)  :
    MetFree l Y2 (head1 ([Jvm.Cond.code Y2 method_3_code 1 (some .boolean)]) RM2) (fun a U => a = #[.int x0] ∧ Z.Warmed39 U.vm ∧ U.heap = h0) (fun _ _ _ _ _ => True) (fun _ U o U' => ∃ v L, o = .returned v ∧ (PQ h0 (some (.int r))) v U'.heap L ∧ FrameEnd U o U' L RM2.cells RM2.slots) := by
  refine MetFree.of_bodySF (plainFor_of_name pn_2) hisR ?_
  intro p e s m args below meth c s₁ Bd hml0 hP hK
  obtain ⟨rfl, hZ, hh⟩ := hP
  have hx := Bd.exec
  have hby := Bd.bytes
  have hlk : meth.locks = false := BodyLoose.notSynchronized Bd
  have hret := Bd.returns
  have hml : c.maxLocals = 1 := hml0
  have hown : s.vm.findClass "com/example/sleyreed/sleyreed/xpath/NamesIsNameStartPinLaw" = some m.cls := findClass_of_methodNamed Bd.named
  have X0 : Stand p l e RM2 s m #[.int x0] below meth c s₁ [] 0 0 := Stand.of_body Bd
  have e0 : s₁.heap = h0 := by rw [← hh, Bd.state]; rfl
  suffices G : Go p e below s RM2.cells RM2.slots (PQ h0 (some (.int r))) m s₁ 0 #[.val (.int x0)] [] by
    obtain ⟨s₂, o, h1, h2⟩ := G
    exact ⟨s₂, o, castTop (ef_2 m x0) h1, h2⟩
  have hf0 := hf
  clear hf
  have B34 : ∀ (T : State), Stand p l e RM2 s m #[.int x0] below meth c T [] 0 0 → T.heap = h0 → ∀ (x0 : Int32), f2_34 x0 = some r → Go p e below s RM2.cells RM2.slots (PQ h0 (some (.int r))) m T 34 #[.val (.int x0)] [] := by
    intro T101 X101 e101 x0 hf
    unfold f2_34 at hf
    refine Go.iloadN X101 hx hby (v := x0) d2_34 rfl rfl ?_
    refine Go.bipush X101 hx hby (v := (96 : Int32)) d2_35 rfl rfl ?_
    refine Go.icmp_eq X101 hx hby (pc' := 46) d2_37 (by decide) (by decide) rfl (fun hc102 => ?_) (fun hc102 => ?_)
    · replace hf := (if_pos hc102).symm.trans hf
      refine Go.iconst X101 hx hby (v := (1 : Int32)) d2_46 rfl rfl ?_
      refine Go.goto X101 hx hby (pc' := 51) d2_47 (by decide) (by decide) ?_
      exact Go.iretN X101 hx hby hlk hret (Or.inl rfl) (w' := (1 : Int32)) rfl d2_51 (by decide) (by decide) ⟨congrArg (fun z => some (Value.int z)) (Option.some.inj hf), rfl, e101⟩
    · replace hf := (if_neg hc102).symm.trans hf
      refine Go.iloadN X101 hx hby (v := x0) d2_40 rfl rfl ?_
      refine Go.bipush X101 hx hby (v := (123 : Int32)) d2_41 rfl rfl ?_
      refine Go.icmp_lt X101 hx hby (pc' := 50) d2_43 (by decide) (by decide) rfl (fun hc103 => ?_) (fun hc103 => ?_)
      · replace hf := (if_pos hc103).symm.trans hf
        refine Go.iconst X101 hx hby (v := (0 : Int32)) d2_50 rfl rfl ?_
        exact Go.iretN X101 hx hby hlk hret (Or.inl rfl) (w' := (0 : Int32)) rfl d2_51 (by decide) (by decide) ⟨congrArg (fun z => some (Value.int z)) (Option.some.inj hf), rfl, e101⟩
      · replace hf := (if_neg hc103).symm.trans hf
        refine Go.iconst X101 hx hby (v := (1 : Int32)) d2_46 rfl rfl ?_
        refine Go.goto X101 hx hby (pc' := 51) d2_47 (by decide) (by decide) ?_
        exact Go.iretN X101 hx hby hlk hret (Or.inl rfl) (w' := (1 : Int32)) rfl d2_51 (by decide) (by decide) ⟨congrArg (fun z => some (Value.int z)) (Option.some.inj hf), rfl, e101⟩
  have B107 : ∀ (T : State), Stand p l e RM2 s m #[.int x0] below meth c T [] 0 0 → T.heap = h0 → ∀ (x0 : Int32), f2_107 x0 = some r → Go p e below s RM2.cells RM2.slots (PQ h0 (some (.int r))) m T 107 #[.val (.int x0)] [] := by
    intro T104 X104 e104 x0 hf
    unfold f2_107 at hf
    refine Go.iloadN X104 hx hby (v := x0) d2_107 rfl rfl ?_
    refine Go.sipush X104 hx hby (v := (894 : Int32)) d2_108 rfl rfl ?_
    refine Go.icmp_ne X104 hx hby (pc' := 118) d2_111 (by decide) (by decide) rfl (fun hc105 => ?_) (fun hc105 => ?_)
    · replace hf := (if_neg hc105).symm.trans hf
      refine Go.iconst X104 hx hby (v := (0 : Int32)) d2_118 rfl rfl ?_
      exact Go.iretN X104 hx hby hlk hret (Or.inl rfl) (w' := (0 : Int32)) rfl d2_119 (by decide) (by decide) ⟨congrArg (fun z => some (Value.int z)) (Option.some.inj hf), rfl, e104⟩
    · replace hf := (if_pos hc105).symm.trans hf
      refine Go.iconst X104 hx hby (v := (1 : Int32)) d2_114 rfl rfl ?_
      refine Go.goto X104 hx hby (pc' := 119) d2_115 (by decide) (by decide) ?_
      exact Go.iretN X104 hx hby hlk hret (Or.inl rfl) (w' := (1 : Int32)) rfl d2_119 (by decide) (by decide) ⟨congrArg (fun z => some (Value.int z)) (Option.some.inj hf), rfl, e104⟩
  have B169 : ∀ (T : State), Stand p l e RM2 s m #[.int x0] below meth c T [] 0 0 → T.heap = h0 → ∀ (x0 : Int32), f2_169 x0 = some r → Go p e below s RM2.cells RM2.slots (PQ h0 (some (.int r))) m T 169 #[.val (.int x0)] [] := by
    intro T106 X106 e106 x0 hf
    unfold f2_169 at hf
    refine Go.iloadN X106 hx hby (v := x0) d2_169 rfl rfl ?_
    refine Go.sipush X106 hx hby (v := (12272 : Int32)) d2_170 rfl rfl ?_
    refine Go.icmp_lt X106 hx hby (pc' := 180) d2_173 (by decide) (by decide) rfl (fun hc107 => ?_) (fun hc107 => ?_)
    · replace hf := (if_pos hc107).symm.trans hf
      refine Go.iconst X106 hx hby (v := (0 : Int32)) d2_180 rfl rfl ?_
      exact Go.iretN X106 hx hby hlk hret (Or.inl rfl) (w' := (0 : Int32)) rfl d2_181 (by decide) (by decide) ⟨congrArg (fun z => some (Value.int z)) (Option.some.inj hf), rfl, e106⟩
    · replace hf := (if_neg hc107).symm.trans hf
      refine Go.iconst X106 hx hby (v := (1 : Int32)) d2_176 rfl rfl ?_
      refine Go.goto X106 hx hby (pc' := 181) d2_177 (by decide) (by decide) ?_
      exact Go.iretN X106 hx hby hlk hret (Or.inl rfl) (w' := (1 : Int32)) rfl d2_181 (by decide) (by decide) ⟨congrArg (fun z => some (Value.int z)) (Option.some.inj hf), rfl, e106⟩
  have B155 : ∀ (T : State), Stand p l e RM2 s m #[.int x0] below meth c T [] 0 0 → T.heap = h0 → ∀ (x0 : Int32), f2_155 x0 = some r → Go p e below s RM2.cells RM2.slots (PQ h0 (some (.int r))) m T 155 #[.val (.int x0)] [] := by
    intro T108 X108 e108 x0 hf
    unfold f2_155 at hf
    refine Go.iloadN X108 hx hby (v := x0) d2_155 rfl rfl ?_
    refine Go.sipush X108 hx hby (v := (8592 : Int32)) d2_156 rfl rfl ?_
    refine Go.icmp_lt X108 hx hby (pc' := 169) d2_159 (by decide) (by decide) rfl (fun hc109 => ?_) (fun hc109 => ?_)
    · replace hf := (if_pos hc109).symm.trans hf
      exact B169 T108 X108 e108 x0 hf
    · replace hf := (if_neg hc109).symm.trans hf
      refine Go.iloadN X108 hx hby (v := x0) d2_162 rfl rfl ?_
      refine Go.sipush X108 hx hby (v := (11263 : Int32)) d2_163 rfl rfl ?_
      refine Go.icmp_le X108 hx hby (pc' := 176) d2_166 (by decide) (by decide) rfl (fun hc110 => ?_) (fun hc110 => ?_)
      · replace hf := (if_neg hc110).symm.trans hf
        refine Go.iconst X108 hx hby (v := (1 : Int32)) d2_176 rfl rfl ?_
        refine Go.goto X108 hx hby (pc' := 181) d2_177 (by decide) (by decide) ?_
        exact Go.iretN X108 hx hby hlk hret (Or.inl rfl) (w' := (1 : Int32)) rfl d2_181 (by decide) (by decide) ⟨congrArg (fun z => some (Value.int z)) (Option.some.inj hf), rfl, e108⟩
      · replace hf := (if_pos hc110).symm.trans hf
        exact B169 T108 X108 e108 x0 hf
  have B141 : ∀ (T : State), Stand p l e RM2 s m #[.int x0] below meth c T [] 0 0 → T.heap = h0 → ∀ (x0 : Int32), f2_141 x0 = some r → Go p e below s RM2.cells RM2.slots (PQ h0 (some (.int r))) m T 141 #[.val (.int x0)] [] := by
    intro T111 X111 e111 x0 hf
    unfold f2_141 at hf
    refine Go.iloadN X111 hx hby (v := x0) d2_141 rfl rfl ?_
    refine Go.sipush X111 hx hby (v := (8206 : Int32)) d2_142 rfl rfl ?_
    refine Go.icmp_lt X111 hx hby (pc' := 155) d2_145 (by decide) (by decide) rfl (fun hc112 => ?_) (fun hc112 => ?_)
    · replace hf := (if_pos hc112).symm.trans hf
      exact B155 T111 X111 e111 x0 hf
    · replace hf := (if_neg hc112).symm.trans hf
      refine Go.iloadN X111 hx hby (v := x0) d2_148 rfl rfl ?_
      refine Go.sipush X111 hx hby (v := (8303 : Int32)) d2_149 rfl rfl ?_
      refine Go.icmp_le X111 hx hby (pc' := 176) d2_152 (by decide) (by decide) rfl (fun hc113 => ?_) (fun hc113 => ?_)
      · replace hf := (if_neg hc113).symm.trans hf
        refine Go.iconst X111 hx hby (v := (1 : Int32)) d2_176 rfl rfl ?_
        refine Go.goto X111 hx hby (pc' := 181) d2_177 (by decide) (by decide) ?_
        exact Go.iretN X111 hx hby hlk hret (Or.inl rfl) (w' := (1 : Int32)) rfl d2_181 (by decide) (by decide) ⟨congrArg (fun z => some (Value.int z)) (Option.some.inj hf), rfl, e111⟩
      · replace hf := (if_pos hc113).symm.trans hf
        exact B155 T111 X111 e111 x0 hf
  have B219 : ∀ (T : State), Stand p l e RM2 s m #[.int x0] below meth c T [] 0 0 → T.heap = h0 → ∀ (x0 : Int32), f2_219 x0 = some r → Go p e below s RM2.cells RM2.slots (PQ h0 (some (.int r))) m T 219 #[.val (.int x0)] [] := by
    intro T114 X114 e114 x0 hf
    unfold f2_219 at hf
    refine Go.iloadN X114 hx hby (v := x0) d2_219 rfl rfl ?_
    refine Go.ldcI X114 hx hby hZ (v := (65534 : Int32)) hown (hw _ (List.mem_of_getElem? (i := 21) rfl)) d2_220 rfl ?_
    refine Go.icmp_lt X114 hx hby (pc' := 229) d2_222 (by decide) (by decide) rfl (fun hc115 => ?_) (fun hc115 => ?_)
    · replace hf := (if_pos hc115).symm.trans hf
      refine Go.iconst X114 hx hby (v := (0 : Int32)) d2_229 rfl rfl ?_
      exact Go.iretN X114 hx hby hlk hret (Or.inl rfl) (w' := (0 : Int32)) rfl d2_230 (by decide) (by decide) ⟨congrArg (fun z => some (Value.int z)) (Option.some.inj hf), rfl, e114⟩
    · replace hf := (if_neg hc115).symm.trans hf
      refine Go.iconst X114 hx hby (v := (1 : Int32)) d2_225 rfl rfl ?_
      refine Go.goto X114 hx hby (pc' := 230) d2_226 (by decide) (by decide) ?_
      exact Go.iretN X114 hx hby hlk hret (Or.inl rfl) (w' := (1 : Int32)) rfl d2_230 (by decide) (by decide) ⟨congrArg (fun z => some (Value.int z)) (Option.some.inj hf), rfl, e114⟩
  have B207 : ∀ (T : State), Stand p l e RM2 s m #[.int x0] below meth c T [] 0 0 → T.heap = h0 → ∀ (x0 : Int32), f2_207 x0 = some r → Go p e below s RM2.cells RM2.slots (PQ h0 (some (.int r))) m T 207 #[.val (.int x0)] [] := by
    intro T116 X116 e116 x0 hf
    unfold f2_207 at hf
    refine Go.iloadN X116 hx hby (v := x0) d2_207 rfl rfl ?_
    refine Go.ldcI X116 hx hby hZ (v := (64976 : Int32)) hown (hw _ (List.mem_of_getElem? (i := 20) rfl)) d2_208 rfl ?_
    refine Go.icmp_lt X116 hx hby (pc' := 219) d2_210 (by decide) (by decide) rfl (fun hc117 => ?_) (fun hc117 => ?_)
    · replace hf := (if_pos hc117).symm.trans hf
      exact B219 T116 X116 e116 x0 hf
    · replace hf := (if_neg hc117).symm.trans hf
      refine Go.iloadN X116 hx hby (v := x0) d2_213 rfl rfl ?_
      refine Go.ldcI X116 hx hby hZ (v := (65007 : Int32)) hown (hw _ (List.mem_of_getElem? (i := 22) rfl)) d2_214 rfl ?_
      refine Go.icmp_le X116 hx hby (pc' := 225) d2_216 (by decide) (by decide) rfl (fun hc118 => ?_) (fun hc118 => ?_)
      · replace hf := (if_neg hc118).symm.trans hf
        refine Go.iconst X116 hx hby (v := (1 : Int32)) d2_225 rfl rfl ?_
        refine Go.goto X116 hx hby (pc' := 230) d2_226 (by decide) (by decide) ?_
        exact Go.iretN X116 hx hby hlk hret (Or.inl rfl) (w' := (1 : Int32)) rfl d2_230 (by decide) (by decide) ⟨congrArg (fun z => some (Value.int z)) (Option.some.inj hf), rfl, e116⟩
      · replace hf := (if_pos hc118).symm.trans hf
        exact B219 T116 X116 e116 x0 hf
  have hf := hf0
  unfold f2_0 at hf
  refine Go.iloadN X0 hx hby (v := x0) d2_0 rfl rfl ?_
  refine Go.bipush X0 hx hby (v := (65 : Int32)) d2_1 rfl rfl ?_
  refine Go.icmp_ge X0 hx hby (pc' := 8) d2_3 (by decide) (by decide) rfl (fun hc119 => ?_) (fun hc119 => ?_)
  · replace hf := (if_neg hc119).symm.trans hf
    refine Go.iloadN X0 hx hby (v := x0) d2_8 rfl rfl ?_
    refine Go.ldcI X0 hx hby hZ (v := (983039 : Int32)) hown (hw _ (List.mem_of_getElem? (i := 12) rfl)) d2_9 rfl ?_
    refine Go.icmp_le X0 hx hby (pc' := 16) d2_11 (by decide) (by decide) rfl (fun hc120 => ?_) (fun hc120 => ?_)
    · replace hf := (if_neg hc120).symm.trans hf
      refine Go.iloadN X0 hx hby (v := x0) d2_16 rfl rfl ?_
      refine Go.bipush X0 hx hby (v := (127 : Int32)) d2_17 rfl rfl ?_
      refine Go.icmp_gt X0 hx hby (pc' := 52) d2_19 (by decide) (by decide) rfl (fun hc121 => ?_) (fun hc121 => ?_)
      · replace hf := (if_pos hc121).symm.trans hf
        refine Go.iloadN X0 hx hby (v := x0) d2_52 rfl rfl ?_
        refine Go.sipush X0 hx hby (v := (255 : Int32)) d2_53 rfl rfl ?_
        refine Go.icmp_gt X0 hx hby (pc' := 86) d2_56 (by decide) (by decide) rfl (fun hc122 => ?_) (fun hc122 => ?_)
        · replace hf := (if_pos hc122).symm.trans hf
          refine Go.iloadN X0 hx hby (v := x0) d2_86 rfl rfl ?_
          refine Go.sipush X0 hx hby (v := (8191 : Int32)) d2_87 rfl rfl ?_
          refine Go.icmp_gt X0 hx hby (pc' := 120) d2_90 (by decide) (by decide) rfl (fun hc123 => ?_) (fun hc123 => ?_)
          · replace hf := (if_pos hc123).symm.trans hf
            refine Go.iloadN X0 hx hby (v := x0) d2_120 rfl rfl ?_
            refine Go.sipush X0 hx hby (v := (12287 : Int32)) d2_121 rfl rfl ?_
            refine Go.icmp_gt X0 hx hby (pc' := 182) d2_124 (by decide) (by decide) rfl (fun hc124 => ?_) (fun hc124 => ?_)
            · replace hf := (if_pos hc124).symm.trans hf
              refine Go.iloadN X0 hx hby (v := x0) d2_182 rfl rfl ?_
              refine Go.ldcI X0 hx hby hZ (v := (65535 : Int32)) hown (hw _ (List.mem_of_getElem? (i := 13) rfl)) d2_183 rfl ?_
              refine Go.icmp_gt X0 hx hby (pc' := 231) d2_185 (by decide) (by decide) rfl (fun hc125 => ?_) (fun hc125 => ?_)
              · replace hf := (if_pos hc125).symm.trans hf
                refine Go.iconst X0 hx hby (v := (0 : Int32)) d2_231 rfl rfl ?_
                exact Go.iretN X0 hx hby hlk hret (Or.inl rfl) (w' := (0 : Int32)) rfl d2_232 (by decide) (by decide) ⟨congrArg (fun z => some (Value.int z)) (Option.some.inj hf), rfl, e0⟩
              · replace hf := (if_neg hc125).symm.trans hf
                refine Go.iloadN X0 hx hby (v := x0) d2_188 rfl rfl ?_
                refine Go.sipush X0 hx hby (v := (12288 : Int32)) d2_189 rfl rfl ?_
                refine Go.icmp_eq X0 hx hby (pc' := 225) d2_192 (by decide) (by decide) rfl (fun hc126 => ?_) (fun hc126 => ?_)
                · replace hf := (if_pos hc126).symm.trans hf
                  refine Go.iconst X0 hx hby (v := (1 : Int32)) d2_225 rfl rfl ?_
                  refine Go.goto X0 hx hby (pc' := 230) d2_226 (by decide) (by decide) ?_
                  exact Go.iretN X0 hx hby hlk hret (Or.inl rfl) (w' := (1 : Int32)) rfl d2_230 (by decide) (by decide) ⟨congrArg (fun z => some (Value.int z)) (Option.some.inj hf), rfl, e0⟩
                · replace hf := (if_neg hc126).symm.trans hf
                  refine Go.iloadN X0 hx hby (v := x0) d2_195 rfl rfl ?_
                  refine Go.ldcI X0 hx hby hZ (v := (55296 : Int32)) hown (hw _ (List.mem_of_getElem? (i := 18) rfl)) d2_196 rfl ?_
                  refine Go.icmp_lt X0 hx hby (pc' := 207) d2_198 (by decide) (by decide) rfl (fun hc127 => ?_) (fun hc127 => ?_)
                  · replace hf := (if_pos hc127).symm.trans hf
                    exact B207 s₁ X0 e0 x0 hf
                  · replace hf := (if_neg hc127).symm.trans hf
                    refine Go.iloadN X0 hx hby (v := x0) d2_201 rfl rfl ?_
                    refine Go.ldcI X0 hx hby hZ (v := (63743 : Int32)) hown (hw _ (List.mem_of_getElem? (i := 19) rfl)) d2_202 rfl ?_
                    refine Go.icmp_le X0 hx hby (pc' := 225) d2_204 (by decide) (by decide) rfl (fun hc128 => ?_) (fun hc128 => ?_)
                    · replace hf := (if_neg hc128).symm.trans hf
                      refine Go.iconst X0 hx hby (v := (1 : Int32)) d2_225 rfl rfl ?_
                      refine Go.goto X0 hx hby (pc' := 230) d2_226 (by decide) (by decide) ?_
                      exact Go.iretN X0 hx hby hlk hret (Or.inl rfl) (w' := (1 : Int32)) rfl d2_230 (by decide) (by decide) ⟨congrArg (fun z => some (Value.int z)) (Option.some.inj hf), rfl, e0⟩
                    · replace hf := (if_pos hc128).symm.trans hf
                      exact B207 s₁ X0 e0 x0 hf
            · replace hf := (if_neg hc124).symm.trans hf
              refine Go.iloadN X0 hx hby (v := x0) d2_127 rfl rfl ?_
              refine Go.sipush X0 hx hby (v := (8192 : Int32)) d2_128 rfl rfl ?_
              refine Go.icmp_lt X0 hx hby (pc' := 141) d2_131 (by decide) (by decide) rfl (fun hc129 => ?_) (fun hc129 => ?_)
              · replace hf := (if_pos hc129).symm.trans hf
                exact B141 s₁ X0 e0 x0 hf
              · replace hf := (if_neg hc129).symm.trans hf
                refine Go.iloadN X0 hx hby (v := x0) d2_134 rfl rfl ?_
                refine Go.sipush X0 hx hby (v := (8203 : Int32)) d2_135 rfl rfl ?_
                refine Go.icmp_le X0 hx hby (pc' := 176) d2_138 (by decide) (by decide) rfl (fun hc130 => ?_) (fun hc130 => ?_)
                · replace hf := (if_neg hc130).symm.trans hf
                  refine Go.iconst X0 hx hby (v := (1 : Int32)) d2_176 rfl rfl ?_
                  refine Go.goto X0 hx hby (pc' := 181) d2_177 (by decide) (by decide) ?_
                  exact Go.iretN X0 hx hby hlk hret (Or.inl rfl) (w' := (1 : Int32)) rfl d2_181 (by decide) (by decide) ⟨congrArg (fun z => some (Value.int z)) (Option.some.inj hf), rfl, e0⟩
                · replace hf := (if_pos hc130).symm.trans hf
                  exact B141 s₁ X0 e0 x0 hf
          · replace hf := (if_neg hc123).symm.trans hf
            refine Go.iloadN X0 hx hby (v := x0) d2_93 rfl rfl ?_
            refine Go.sipush X0 hx hby (v := (768 : Int32)) d2_94 rfl rfl ?_
            refine Go.icmp_lt X0 hx hby (pc' := 107) d2_97 (by decide) (by decide) rfl (fun hc131 => ?_) (fun hc131 => ?_)
            · replace hf := (if_pos hc131).symm.trans hf
              exact B107 s₁ X0 e0 x0 hf
            · replace hf := (if_neg hc131).symm.trans hf
              refine Go.iloadN X0 hx hby (v := x0) d2_100 rfl rfl ?_
              refine Go.sipush X0 hx hby (v := (879 : Int32)) d2_101 rfl rfl ?_
              refine Go.icmp_le X0 hx hby (pc' := 114) d2_104 (by decide) (by decide) rfl (fun hc132 => ?_) (fun hc132 => ?_)
              · replace hf := (if_neg hc132).symm.trans hf
                refine Go.iconst X0 hx hby (v := (1 : Int32)) d2_114 rfl rfl ?_
                refine Go.goto X0 hx hby (pc' := 119) d2_115 (by decide) (by decide) ?_
                exact Go.iretN X0 hx hby hlk hret (Or.inl rfl) (w' := (1 : Int32)) rfl d2_119 (by decide) (by decide) ⟨congrArg (fun z => some (Value.int z)) (Option.some.inj hf), rfl, e0⟩
              · replace hf := (if_pos hc132).symm.trans hf
                exact B107 s₁ X0 e0 x0 hf
        · replace hf := (if_neg hc122).symm.trans hf
          refine Go.iloadN X0 hx hby (v := x0) d2_59 rfl rfl ?_
          refine Go.sipush X0 hx hby (v := (191 : Int32)) d2_60 rfl rfl ?_
          refine Go.icmp_le X0 hx hby (pc' := 80) d2_63 (by decide) (by decide) rfl (fun hc133 => ?_) (fun hc133 => ?_)
          · replace hf := (if_neg hc133).symm.trans hf
            refine Go.iconst X0 hx hby (v := (1 : Int32)) d2_80 rfl rfl ?_
            refine Go.goto X0 hx hby (pc' := 85) d2_81 (by decide) (by decide) ?_
            exact Go.iretN X0 hx hby hlk hret (Or.inl rfl) (w' := (1 : Int32)) rfl d2_85 (by decide) (by decide) ⟨congrArg (fun z => some (Value.int z)) (Option.some.inj hf), rfl, e0⟩
          · replace hf := (if_pos hc133).symm.trans hf
            refine Go.iloadN X0 hx hby (v := x0) d2_66 rfl rfl ?_
            refine Go.sipush X0 hx hby (v := (215 : Int32)) d2_67 rfl rfl ?_
            refine Go.icmp_eq X0 hx hby (pc' := 80) d2_70 (by decide) (by decide) rfl (fun hc134 => ?_) (fun hc134 => ?_)
            · replace hf := (if_pos hc134).symm.trans hf
              refine Go.iconst X0 hx hby (v := (1 : Int32)) d2_80 rfl rfl ?_
              refine Go.goto X0 hx hby (pc' := 85) d2_81 (by decide) (by decide) ?_
              exact Go.iretN X0 hx hby hlk hret (Or.inl rfl) (w' := (1 : Int32)) rfl d2_85 (by decide) (by decide) ⟨congrArg (fun z => some (Value.int z)) (Option.some.inj hf), rfl, e0⟩
            · replace hf := (if_neg hc134).symm.trans hf
              refine Go.iloadN X0 hx hby (v := x0) d2_73 rfl rfl ?_
              refine Go.sipush X0 hx hby (v := (247 : Int32)) d2_74 rfl rfl ?_
              refine Go.icmp_ne X0 hx hby (pc' := 84) d2_77 (by decide) (by decide) rfl (fun hc135 => ?_) (fun hc135 => ?_)
              · replace hf := (if_neg hc135).symm.trans hf
                refine Go.iconst X0 hx hby (v := (0 : Int32)) d2_84 rfl rfl ?_
                exact Go.iretN X0 hx hby hlk hret (Or.inl rfl) (w' := (0 : Int32)) rfl d2_85 (by decide) (by decide) ⟨congrArg (fun z => some (Value.int z)) (Option.some.inj hf), rfl, e0⟩
              · replace hf := (if_pos hc135).symm.trans hf
                refine Go.iconst X0 hx hby (v := (1 : Int32)) d2_80 rfl rfl ?_
                refine Go.goto X0 hx hby (pc' := 85) d2_81 (by decide) (by decide) ?_
                exact Go.iretN X0 hx hby hlk hret (Or.inl rfl) (w' := (1 : Int32)) rfl d2_85 (by decide) (by decide) ⟨congrArg (fun z => some (Value.int z)) (Option.some.inj hf), rfl, e0⟩
      · replace hf := (if_neg hc121).symm.trans hf
        refine Go.iloadN X0 hx hby (v := x0) d2_22 rfl rfl ?_
        refine Go.bipush X0 hx hby (v := (91 : Int32)) d2_23 rfl rfl ?_
        refine Go.icmp_lt X0 hx hby (pc' := 34) d2_25 (by decide) (by decide) rfl (fun hc136 => ?_) (fun hc136 => ?_)
        · replace hf := (if_pos hc136).symm.trans hf
          exact B34 s₁ X0 e0 x0 hf
        · replace hf := (if_neg hc136).symm.trans hf
          refine Go.iloadN X0 hx hby (v := x0) d2_28 rfl rfl ?_
          refine Go.bipush X0 hx hby (v := (94 : Int32)) d2_29 rfl rfl ?_
          refine Go.icmp_le X0 hx hby (pc' := 46) d2_31 (by decide) (by decide) rfl (fun hc137 => ?_) (fun hc137 => ?_)
          · replace hf := (if_neg hc137).symm.trans hf
            refine Go.iconst X0 hx hby (v := (1 : Int32)) d2_46 rfl rfl ?_
            refine Go.goto X0 hx hby (pc' := 51) d2_47 (by decide) (by decide) ?_
            exact Go.iretN X0 hx hby hlk hret (Or.inl rfl) (w' := (1 : Int32)) rfl d2_51 (by decide) (by decide) ⟨congrArg (fun z => some (Value.int z)) (Option.some.inj hf), rfl, e0⟩
          · replace hf := (if_pos hc137).symm.trans hf
            exact B34 s₁ X0 e0 x0 hf
    · replace hf := (if_pos hc120).symm.trans hf
      refine Go.iconst X0 hx hby (v := (1 : Int32)) d2_14 rfl rfl ?_
      exact Go.iretN X0 hx hby hlk hret (Or.inl rfl) (w' := (1 : Int32)) rfl d2_15 (by decide) (by decide) ⟨congrArg (fun z => some (Value.int z)) (Option.some.inj hf), rfl, e0⟩
  · replace hf := (if_pos hc119).symm.trans hf
    refine Go.iconst X0 hx hby (v := (1 : Int32)) d2_6 rfl rfl ?_
    exact Go.iretN X0 hx hby hlk hret (Or.inl rfl) (w' := (1 : Int32)) rfl d2_7 (by decide) (by decide) ⟨congrArg (fun z => some (Value.int z)) (Option.some.inj hf), rfl, e0⟩
-- body 0
def f0_61 (t0 : Int32) (t1 : Int32) : Option (Int32) := if t1 = t0 then some (1 : Int32) else some (0 : Int32)
def f0_45 (x3 : Int32) : Option (Int32) := (f1_0 x3).bind fun r139 => (f2_0 x3).bind fun r140 => if r140 = 0 then f0_61 (1 : Int32) r139 else f0_61 (0 : Int32) r139
def f0_0 (x0 : Int32) (x1 : Int32) : Option (Int32) := if (x1 &&& (3 : Int32)) = 0 then f0_45 x0 else if (x1 &&& (3 : Int32)) = (1 : Int32) then f0_45 (x0 &&& (255 : Int32)) else if (x1 &&& (3 : Int32)) = (2 : Int32) then f0_45 (x0 &&& (65535 : Int32)) else f0_45 (x0 &&& (2097151 : Int32))
theorem pn_0 : plainName "com/example/sleyreed/sleyreed/xpath/NamesIsNameStartPinLaw" = true := by first | (simp [plainName, overriddenIn]; done) | decide +kernel
theorem ef_0 (m : MethodId) (x0 : Int32) (x1 : Int32) : entryFrame m #[.int x0, .int x1] maxLocals = mkF m 0 #[.val (.int x0), .val (.int x1), .unset, .unset] [] := by first | (simp [entryFrame, mkF, argsToLocals, Value.category, maxLocals]; done) | rfl
set_option maxRecDepth 65536 in
set_option maxHeartbeats 40000000 in
theorem rm0 (l : Launch) (Z : State) (a0 : Array Value) (hw : ∀ d ∈ tables_1, d.before a0 Z = true) (ws : List Jvm.Cond) (x0 : Int32) (x1 : Int32)  (h0 : Heap) (n0 : Nat) (Z0 : n0 ≤ h0.size) (r : Int32) (hf : f0_0 x0 x1 = some r)  :
    MetFree l x (head1 (Jvm.Cond.code x code maxLocals ret :: ws) room_1) (fun a U => a = #[.int x0, .int x1] ∧ Z.Warmed39 U.vm ∧ U.heap = h0) (fun _ _ _ _ _ => True) (fun _ U o U' => ∃ v L, o = .returned v ∧ (fun v h L => v = some (.int r) ∧ Fr n0 L) v U'.heap L ∧ FrameEnd U o U' L room_1.cells room_1.slots) := by
  refine MetFree.of_bodySF (plainFor_of_name pn_0) hisR ?_
  intro p e s m args below meth c s₁ Bd hml0 hP hK
  obtain ⟨rfl, hZ, hh⟩ := hP
  have hx := Bd.exec
  have hby := Bd.bytes
  have hlk : meth.locks = false := BodyLoose.notSynchronized Bd
  have hret := Bd.returns
  have hml : c.maxLocals = 4 := hml0
  have hown : s.vm.findClass "com/example/sleyreed/sleyreed/xpath/NamesIsNameStartPinLaw" = some m.cls := findClass_of_methodNamed Bd.named
  have X0 : Stand p l e room_1 s m #[.int x0, .int x1] below meth c s₁ [] 0 0 := Stand.of_body Bd
  have e0 : s₁.heap = h0 := by rw [← hh, Bd.state]; rfl
  suffices G : Go p e below s room_1.cells room_1.slots (fun v h L => v = some (.int r) ∧ Fr n0 L) m s₁ 0 #[.val (.int x0), .val (.int x1), .unset, .unset] [] by
    obtain ⟨s₂, o, h1, h2⟩ := G
    exact ⟨s₂, o, castTop (ef_0 m x0 x1) h1, h2⟩
  have hf0 := hf
  clear hf
  have B61 : ∀ (T : State), Stand p l e room_1 s m #[.int x0, .int x1] below meth c T [] 0 0 → T.heap = h0 → ∀ (x0 : Int32) (x1 : Int32) (x2 : Int32) (x3 : Int32) (t0 : Int32) (t1 : Int32), f0_61 t0 t1 = some r → Go p e below s room_1.cells room_1.slots (fun v h L => v = some (.int r) ∧ Fr n0 L) m T 61 #[.val (.int x0), .val (.int x1), .val (.int x2), .val (.int x3)] [.int t0, .int t1] := by
    intro T145 X145 e145 x0 x1 x2 x3 t0 t1 hf
    unfold f0_61 at hf
    refine Go.icmp_ne X145 hx hby (pc' := 68) at_61 (by decide) (by decide) rfl (fun hc146 => ?_) (fun hc146 => ?_)
    · replace hf := (if_neg hc146).symm.trans hf
      refine Go.iconst X145 hx hby (v := (0 : Int32)) at_68 rfl rfl ?_
      exact Go.iretN X145 hx hby hlk hret (Or.inl rfl) (w' := (0 : Int32)) rfl at_69 (by decide) (by decide) ⟨congrArg (fun z => some (Value.int z)) (Option.some.inj hf), Fr.nil n0⟩
    · replace hf := (if_pos hc146).symm.trans hf
      refine Go.iconst X145 hx hby (v := (1 : Int32)) at_64 rfl rfl ?_
      refine Go.goto X145 hx hby (pc' := 69) at_65 (by decide) (by decide) ?_
      exact Go.iretN X145 hx hby hlk hret (Or.inl rfl) (w' := (1 : Int32)) rfl at_69 (by decide) (by decide) ⟨congrArg (fun z => some (Value.int z)) (Option.some.inj hf), Fr.nil n0⟩
  have B45 : ∀ (T : State), Stand p l e room_1 s m #[.int x0, .int x1] below meth c T [] 0 0 → T.heap = h0 → ∀ (x0 : Int32) (x1 : Int32) (x2 : Int32) (x3 : Int32), f0_45 x3 = some r → Go p e below s room_1.cells room_1.slots (fun v h L => v = some (.int r) ∧ Fr n0 L) m T 45 #[.val (.int x0), .val (.int x1), .val (.int x2), .val (.int x3)] [] := by
    intro T147 X147 e147 x0 x1 x2 x3 hf
    unfold f0_45 at hf
    refine Go.iloadN X147 hx hby (v := x3) at_45 rfl rfl ?_
    obtain ⟨r148, g148, hf⟩ := Option.bind_eq_some_iff.mp hf
    refine Go.callSP X147 hx hby hZ (by rw [hml]; rfl) (W := 0) (argsL := [.int x3]) (rest := []) hown (hw _ (List.mem_of_getElem? (i := 1) rfl)) (hw _ (List.mem_of_getElem? (i := 2) rfl)) (hw _ (List.mem_of_getElem? (i := 3) rfl)) (hw _ (List.mem_of_getElem? (i := 4) rfl)) (by decide) (rm1 l Z a0 hw x3  h0 r148 g148 ) (by decide) (by decide) e147 pd_1 rfl rfl rfl (Nat.le_of_eq rfl) rfl rfl (by decide) (by decide) at_46 rfl (fun T148 X148 e148 => ?_)
    refine Go.iloadN X148 hx hby (v := x3) at_49 rfl rfl ?_
    obtain ⟨r149, g149, hf⟩ := Option.bind_eq_some_iff.mp hf
    refine Go.callSP X148 hx hby hZ (by rw [hml]; rfl) (W := 1) (argsL := [.int x3]) (rest := [.int r148]) hown (hw _ (List.mem_of_getElem? (i := 8) rfl)) (hw _ (List.mem_of_getElem? (i := 9) rfl)) (hw _ (List.mem_of_getElem? (i := 10) rfl)) (hw _ (List.mem_of_getElem? (i := 11) rfl)) (by decide) (rm2 l Z a0 hw x3  h0 r149 g149 ) (by decide) (by decide) e148 pd_2 rfl rfl rfl (Nat.le_of_eq rfl) rfl rfl (by decide) (by decide) at_50 rfl (fun T149 X149 e149 => ?_)
    refine Go.if_ne X149 hx hby (pc' := 60) at_53 (by decide) (by decide) rfl (fun hc150 => ?_) (fun hc150 => ?_)
    · replace hf := (if_neg hc150).symm.trans hf
      refine Go.iconst X149 hx hby (v := (0 : Int32)) at_60 rfl rfl ?_
      exact B61 T149 X149 e149 x0 x1 x2 x3 (0 : Int32) r148 hf
    · replace hf := (if_pos hc150).symm.trans hf
      refine Go.iconst X149 hx hby (v := (1 : Int32)) at_56 rfl rfl ?_
      refine Go.goto X149 hx hby (pc' := 61) at_57 (by decide) (by decide) ?_
      exact B61 T149 X149 e149 x0 x1 x2 x3 (1 : Int32) r148 hf
  have hf := hf0
  unfold f0_0 at hf
  refine Go.iloadN X0 hx hby (v := x1) at_0 rfl rfl ?_
  refine Go.iconst X0 hx hby (v := (3 : Int32)) at_1 rfl rfl ?_
  refine Go.iand X0 hx hby at_2 rfl ?_
  refine Go.istoreN X0 hx hby (Ls' := #[.val (.int x0), .val (.int x1), .val (.int (x1 &&& (3 : Int32))), .unset]) at_3 rfl rfl ?_
  refine Go.iloadN X0 hx hby (v := (x1 &&& (3 : Int32))) at_4 rfl rfl ?_
  refine Go.if_ne X0 hx hby (pc' := 13) at_5 (by decide) (by decide) rfl (fun hc151 => ?_) (fun hc151 => ?_)
  · replace hf := (if_neg hc151).symm.trans hf
    refine Go.iloadN X0 hx hby (v := (x1 &&& (3 : Int32))) at_13 rfl rfl ?_
    refine Go.iconst X0 hx hby (v := (1 : Int32)) at_14 rfl rfl ?_
    refine Go.icmp_ne X0 hx hby (pc' := 27) at_15 (by decide) (by decide) rfl (fun hc152 => ?_) (fun hc152 => ?_)
    · replace hf := (if_neg hc152).symm.trans hf
      refine Go.iloadN X0 hx hby (v := (x1 &&& (3 : Int32))) at_27 rfl rfl ?_
      refine Go.iconst X0 hx hby (v := (2 : Int32)) at_28 rfl rfl ?_
      refine Go.icmp_ne X0 hx hby (pc' := 40) at_29 (by decide) (by decide) rfl (fun hc153 => ?_) (fun hc153 => ?_)
      · replace hf := (if_neg hc153).symm.trans hf
        refine Go.iloadN X0 hx hby (v := x0) at_40 rfl rfl ?_
        refine Go.ldcI X0 hx hby hZ (v := (2097151 : Int32)) hown (hw _ (List.mem_of_getElem? (i := 0) rfl)) at_41 rfl ?_
        refine Go.iand X0 hx hby at_43 rfl ?_
        refine Go.istoreN X0 hx hby (Ls' := #[.val (.int x0), .val (.int x1), .val (.int (x1 &&& (3 : Int32))), .val (.int (x0 &&& (2097151 : Int32)))]) at_44 rfl rfl ?_
        exact B45 s₁ X0 e0 x0 x1 (x1 &&& (3 : Int32)) (x0 &&& (2097151 : Int32)) hf
      · replace hf := (if_pos hc153).symm.trans hf
        refine Go.iloadN X0 hx hby (v := x0) at_32 rfl rfl ?_
        refine Go.ldcI X0 hx hby hZ (v := (65535 : Int32)) hown (hw _ (List.mem_of_getElem? (i := 13) rfl)) at_33 rfl ?_
        refine Go.iand X0 hx hby at_35 rfl ?_
        refine Go.istoreN X0 hx hby (Ls' := #[.val (.int x0), .val (.int x1), .val (.int (x1 &&& (3 : Int32))), .val (.int (x0 &&& (65535 : Int32)))]) at_36 rfl rfl ?_
        refine Go.goto X0 hx hby (pc' := 45) at_37 (by decide) (by decide) ?_
        exact B45 s₁ X0 e0 x0 x1 (x1 &&& (3 : Int32)) (x0 &&& (65535 : Int32)) hf
    · replace hf := (if_pos hc152).symm.trans hf
      refine Go.iloadN X0 hx hby (v := x0) at_18 rfl rfl ?_
      refine Go.sipush X0 hx hby (v := (255 : Int32)) at_19 rfl rfl ?_
      refine Go.iand X0 hx hby at_22 rfl ?_
      refine Go.istoreN X0 hx hby (Ls' := #[.val (.int x0), .val (.int x1), .val (.int (x1 &&& (3 : Int32))), .val (.int (x0 &&& (255 : Int32)))]) at_23 rfl rfl ?_
      refine Go.goto X0 hx hby (pc' := 45) at_24 (by decide) (by decide) ?_
      exact B45 s₁ X0 e0 x0 x1 (x1 &&& (3 : Int32)) (x0 &&& (255 : Int32)) hf
  · replace hf := (if_pos hc151).symm.trans hf
    refine Go.iloadN X0 hx hby (v := x0) at_8 rfl rfl ?_
    refine Go.istoreN X0 hx hby (Ls' := #[.val (.int x0), .val (.int x1), .val (.int (x1 &&& (3 : Int32))), .val (.int x0)]) at_9 rfl rfl ?_
    refine Go.goto X0 hx hby (pc' := 45) at_10 (by decide) (by decide) ?_
    exact B45 s₁ X0 e0 x0 x1 (x1 &&& (3 : Int32)) x0 hf
theorem own_mask (x : Int32) (k : Nat) (hk : k ≤ 31) (m : Int32) (hm : m = Int32.ofNat (2 ^ k - 1)) : (x &&& m).toInt = x.toInt % (2 ^ k : Nat) := by
  subst hm
  have h1 : (x &&& Int32.ofNat (2 ^ k - 1)).toBitVec.toNat = x.toBitVec.toNat % 2 ^ k := by
    rw [Int32.toBitVec_and, BitVec.toNat_and]
    have : (Int32.ofNat (2 ^ k - 1)).toBitVec.toNat = 2 ^ k - 1 := by
      show (BitVec.ofNat 32 (2 ^ k - 1)).toNat = _
      rw [BitVec.toNat_ofNat]
      apply Nat.mod_eq_of_lt
      have : 2 ^ k ≤ 2 ^ 31 := Nat.pow_le_pow_right (by decide) hk
      omega
    rw [this, Nat.and_two_pow_sub_one_eq_mod]
  have hp : 2 ^ k ≤ 2 ^ 31 := Nat.pow_le_pow_right (by decide) hk
  have hpos : 0 < 2 ^ k := Nat.two_pow_pos k
  have hlt := Nat.mod_lt x.toBitVec.toNat hpos
  show (x &&& Int32.ofNat (2 ^ k - 1)).toBitVec.toInt = x.toBitVec.toInt % _
  rw [BitVec.toInt_eq_toNat_cond, h1, if_pos (by omega), BitVec.toInt_eq_toNat_cond]
  split
  · simp
  · have hd : (2 ^ k : Nat) ∣ 2 ^ 32 := Nat.pow_dvd_pow 2 (by omega)
    obtain ⟨q, hq⟩ := hd
    rw [Int.sub_emod, show ((2 ^ 32 : Nat) : Int) % (2 ^ k : Nat) = 0 by rw [hq]; simp]
    simp
theorem own_fin32 (x : Int32) (N : Nat) (h0 : 0 ≤ x.toInt) (h1 : x.toInt < N) : ∃ n : Fin N, x = Int32.ofNat n.val := by
  refine ⟨⟨x.toInt.toNat, by omega⟩, Int32.toInt_inj.mp ?_⟩
  have := x.toInt_lt
  rw [Int32.toInt_ofNat_of_lt (by show x.toInt.toNat < _; omega)]
  show x.toInt = (x.toInt.toNat : Int); omega
theorem own_remI (x y : Int32) (hx : 0 ≤ x.toInt) (hy : 0 < y.toInt) : (remI x y).toInt = x.toInt % y.toInt := by
  have h1 := x.toInt_lt; have h2 := y.toInt_lt
  have hq : (x / y).toInt = x.toInt / y.toInt := by
    rw [Int32.toInt_div, Int.tdiv_eq_ediv_of_nonneg hx]
    have a1 : 0 ≤ x.toInt / y.toInt := Int.ediv_nonneg hx (by omega)
    have a2 : x.toInt / y.toInt ≤ x.toInt := Int.ediv_le_self _ hx
    exact Int.bmod_eq_of_le (by omega) (by omega)
  have e := Int.emod_add_mul_ediv x.toInt y.toInt
  have m0 := Int.emod_nonneg x.toInt (b := y.toInt) (by omega)
  have hm : (x / y * y).toInt = x.toInt / y.toInt * y.toInt := by
    rw [Int32.toInt_mul, hq]
    have : x.toInt / y.toInt * y.toInt = y.toInt * (x.toInt / y.toInt) := Int.mul_comm _ _
    have a1 : 0 ≤ y.toInt * (x.toInt / y.toInt) := Int.mul_nonneg (by omega) (Int.ediv_nonneg hx (by omega))
    exact Int.bmod_eq_of_le (by omega) (by omega)
  unfold remI
  rw [Int32.toInt_sub, hm]
  have : x.toInt / y.toInt * y.toInt = y.toInt * (x.toInt / y.toInt) := Int.mul_comm _ _
  have m1 := Int.emod_lt_of_pos x.toInt hy
  rw [show x.toInt - x.toInt / y.toInt * y.toInt = x.toInt % y.toInt by omega]
  exact Int.bmod_eq_of_le (by omega) (by omega)
theorem own_bm (x : Int) (n : Nat) (m : Int) (h : (2 * m).toNat = n) (hm : 0 < m) : x.bmod n = (x + m) % (2 * m) - m := by
  have hn : (n : Int) = 2 * m := by omega
  rw [Int.bmod_def, hn, show ((2 * m + 1) / 2 : Int) = m by omega]
  have h1 := Int.emod_nonneg x (b := 2 * m) (by omega)
  have h2 := Int.emod_lt_of_pos x (b := 2 * m) (by omega)
  have e := Int.emod_add_mul_ediv x (2 * m)
  generalize x / (2 * m) = q at *
  generalize x % (2 * m) = r at *
  subst e
  rw [show r + 2 * m * q + m = (r + m) + 2 * m * q by omega, Int.add_mul_emod_self_left]
  split
  · rw [Int.emod_eq_of_lt (by omega) (by omega)]; omega
  · rw [show r + m = (r - m) + 2 * m * 1 by omega, Int.add_mul_emod_self_left, Int.emod_eq_of_lt (by omega) (by omega)]; omega
theorem own_i2b (x : Int32) : (i2bF x).toInt = (x.toInt + 128) % 256 - 128 := by
  unfold i2bF; rw [Int8.toInt_toInt32, Int32.toInt_toInt8]; exact own_bm _ _ 128 rfl (by decide)
theorem own_i2s (x : Int32) : (i2sF x).toInt = (x.toInt + 32768) % 65536 - 32768 := by
  unfold i2sF; rw [Int16.toInt_toInt32, Int32.toInt_toInt16]; exact own_bm _ _ 32768 rfl (by decide)
theorem own_tonat (x : Int32) : (x.toBitVec.toNat : Int) = x.toInt % 4294967296 := by
  show _ = x.toBitVec.toInt % 4294967296
  rw [BitVec.toInt_eq_toNat_cond]
  have := x.toBitVec.isLt
  split <;> omega
theorem own_toint (x : Int32) (h : x.toBitVec.toNat < 2147483648) : x.toInt = x.toBitVec.toNat := by
  show x.toBitVec.toInt = _
  rw [BitVec.toInt_eq_toNat_cond, if_pos (by omega)]
theorem own_tonatJ (x : Int64) : (x.toBitVec.toNat : Int) = x.toInt % 18446744073709551616 := by
  show _ = x.toBitVec.toInt % 18446744073709551616
  rw [BitVec.toInt_eq_toNat_cond]
  have := x.toBitVec.isLt
  split <;> omega
theorem own_tointJ (x : Int64) (h : x.toBitVec.toNat < 9223372036854775808) : x.toInt = x.toBitVec.toNat := by
  show x.toBitVec.toInt = _
  rw [BitVec.toInt_eq_toNat_cond, if_pos (by omega)]
theorem own_i2c (x : Int32) : (i2cF x).toInt = x.toInt % 65536 := by
  have h : (i2cF x).toBitVec.toNat = x.toBitVec.toNat % 65536 := by
    show (BitVec.setWidth 32 (BitVec.setWidth 16 x.toBitVec)).toNat = _
    rw [BitVec.toNat_setWidth, BitVec.toNat_setWidth]; omega
  have := own_tonat x
  rw [own_toint _ (by omega), h]; omega
theorem own_amt : ∀ k : Fin 32, ((Int32.ofNat k.val &&& 31).toBitVec.smod 32).toNat = k.val := by decide +kernel
theorem own_amtU : ∀ k : Fin 32, ((Int32.ofNat k.val &&& 31).toUInt32.toBitVec.toNat) = k.val := by decide +kernel
theorem own_shr (x : Int32) (k : Nat) (hk : k < 32) : (shrI x (Int32.ofNat k)).toInt = x.toInt / (2 ^ k : Nat) := by
  show (BitVec.sshiftRight x.toBitVec ((Int32.ofNat k &&& 31).toBitVec.smod 32).toNat).toInt = x.toBitVec.toInt / _
  rw [own_amt ⟨k, hk⟩, BitVec.toInt_sshiftRight, Int.shiftRight_eq_div_pow]
theorem own_shl (x : Int32) (k : Nat) (hk : k < 32) : (shlI x (Int32.ofNat k)).toInt = (x.toInt * (2 ^ k : Nat)).bmod 4294967296 := by
  show (x.toBitVec <<< ((Int32.ofNat k &&& 31).toBitVec.smod 32)).toInt = (x.toBitVec.toInt * _).bmod _
  rw [BitVec.shiftLeft_eq', own_amt ⟨k, hk⟩, BitVec.toInt_shiftLeft, Nat.shiftLeft_eq, BitVec.toInt_eq_toNat_bmod]
  rw [Int.bmod_mul_bmod]
  congr 1
theorem own_ushr (x : Int32) (k : Nat) (hk : k < 32) (h0 : 0 < k) : (XT.ushr x (Int32.ofNat k)).toInt = (x.toInt % 4294967296) / (2 ^ k : Nat) := by
  have h : (XT.ushr x (Int32.ofNat k)).toBitVec.toNat = x.toBitVec.toNat / 2 ^ k := by
    show (x.toBitVec >>> ((Int32.ofNat k &&& 31).toUInt32.toBitVec % 32)).toNat = _
    rw [BitVec.ushiftRight_eq', BitVec.toNat_ushiftRight, BitVec.toNat_umod, own_amtU ⟨k, hk⟩, Nat.shiftRight_eq_div_pow]
    show _ / 2 ^ (k % 32) = _
    rw [Nat.mod_eq_of_lt hk]
  have h1 := x.toBitVec.isLt
  have h2 : x.toBitVec.toNat / 2 ^ k ≤ x.toBitVec.toNat / 2 ^ 1 := Nat.div_le_div_left (Nat.pow_le_pow_right (by decide) h0) (by decide)
  rw [own_toint _ (by omega), h, ← own_tonat]; rfl
theorem own_ushr0 (x : Int32) (k : Nat) (hk : k < 32) (h0 : 0 ≤ x.toInt) : (XT.ushr x (Int32.ofNat k)).toInt = x.toInt / (2 ^ k : Nat) := by
  have h1 := x.toInt_lt
  by_cases q : k = 0
  · subst q
    have : XT.ushr x (Int32.ofNat 0) = x := by
      apply Int32.toBitVec_inj.mp
      apply BitVec.eq_of_toNat_eq
      show (x.toBitVec >>> ((Int32.ofNat 0 &&& 31).toUInt32.toBitVec % 32)).toNat = _
      rw [BitVec.ushiftRight_eq', BitVec.toNat_ushiftRight, BitVec.toNat_umod, own_amtU ⟨0, hk⟩]; rfl
    rw [this]; simp
  · rw [own_ushr x k hk (by omega), Int.emod_eq_of_lt h0 (by omega)]
theorem own_if {c : Prop} [Decidable c] {α : Type} {a b r : α} (h1 : c → a = r) (h2 : ¬ c → b = r) : (if c then a else b) = r := by
  by_cases h : c
  · rw [if_pos h]; exact h1 h
  · rw [if_neg h]; exact h2 h
theorem own_maskJ (x : Int64) (k : Nat) (hk : k ≤ 63) (m : Int64) (hm : m = Int64.ofNat (2 ^ k - 1)) : (x &&& m).toInt = x.toInt % (2 ^ k : Nat) := by
  subst hm
  have h1 : (x &&& Int64.ofNat (2 ^ k - 1)).toBitVec.toNat = x.toBitVec.toNat % 2 ^ k := by
    rw [Int64.toBitVec_and, BitVec.toNat_and]
    have : (Int64.ofNat (2 ^ k - 1)).toBitVec.toNat = 2 ^ k - 1 := by
      show (BitVec.ofNat 64 (2 ^ k - 1)).toNat = _
      rw [BitVec.toNat_ofNat]
      apply Nat.mod_eq_of_lt
      have : 2 ^ k ≤ 2 ^ 63 := Nat.pow_le_pow_right (by decide) hk
      omega
    rw [this, Nat.and_two_pow_sub_one_eq_mod]
  have hp : 2 ^ k ≤ 2 ^ 63 := Nat.pow_le_pow_right (by decide) hk
  have hpos : 0 < 2 ^ k := Nat.two_pow_pos k
  have hlt := Nat.mod_lt x.toBitVec.toNat hpos
  show (x &&& Int64.ofNat (2 ^ k - 1)).toBitVec.toInt = x.toBitVec.toInt % _
  rw [BitVec.toInt_eq_toNat_cond, h1, if_pos (by omega), BitVec.toInt_eq_toNat_cond]
  split
  · simp
  · have hd : (2 ^ k : Nat) ∣ 2 ^ 64 := Nat.pow_dvd_pow 2 (by omega)
    obtain ⟨q, hq⟩ := hd
    rw [Int.sub_emod, show ((2 ^ 64 : Nat) : Int) % (2 ^ k : Nat) = 0 by rw [hq]; simp]
    simp
theorem own_amtJ : ∀ k : Fin 64, ((Int32.ofNat k.val).toInt64.toUInt64 &&& Int64.toUInt64 63).toBitVec.toNat = k.val := by decide +kernel
theorem own_ushrL (x : Int64) (k : Nat) (hk : k < 64) (h0 : 0 < k) : (XT.ushrL x (Int32.ofNat k)).toInt = (x.toInt % 18446744073709551616) / (2 ^ k : Nat) := by
  have h : (XT.ushrL x (Int32.ofNat k)).toBitVec.toNat = x.toBitVec.toNat / 2 ^ k := by
    show (x.toBitVec >>> (((Int32.ofNat k).toInt64.toUInt64 &&& Int64.toUInt64 63).toBitVec % 64)).toNat = _
    rw [BitVec.ushiftRight_eq', BitVec.toNat_ushiftRight, BitVec.toNat_umod, own_amtJ ⟨k, hk⟩, Nat.shiftRight_eq_div_pow]
    show _ / 2 ^ (k % 64) = _
    rw [Nat.mod_eq_of_lt hk]
  have h1 := x.toBitVec.isLt
  have h2 : x.toBitVec.toNat / 2 ^ k ≤ x.toBitVec.toNat / 2 ^ 1 := Nat.div_le_div_left (Nat.pow_le_pow_right (by decide) h0) (by decide)
  rw [own_tointJ _ (by omega), h, ← own_tonatJ]; rfl

theorem own_ite {P Q : Prop} [Decidable P] [Decidable Q] (h : P ↔ Q) (a b : Int32) : (if P then a else b) = (if Q then a else b) := by
  by_cases p : P
  · rw [if_pos p, if_pos (h.mp p)]
  · rw [if_neg p, if_neg (fun q => p (h.mpr q))]
theorem own_stepI {x lo hi : Int32} {f : Option Int32} {P : Prop} [Decidable P] {a b : Int} (ha : lo.toInt = a) (hb : hi.toInt = b) (hf : f = some (if P then 1 else 0)) : (if x < lo then f else if hi < x then f else some 1) = some (if (a ≤ x.toInt ∧ x.toInt ≤ b) ∨ P then 1 else 0) := by
  subst ha hb hf
  simp only [Int32.lt_iff_toInt_lt]
  split
  · rename_i h
    exact congrArg some (own_ite ⟨Or.inr, fun q => q.elim (fun q => absurd h (by omega)) id⟩ _ _)
  · split
    · rename_i h
      exact congrArg some (own_ite ⟨Or.inr, fun q => q.elim (fun q => absurd h (by omega)) id⟩ _ _)
    · rw [if_pos (Or.inl ⟨by omega, by omega⟩)]
theorem own_stepE {x c : Int32} {f : Option Int32} {P : Prop} [Decidable P] {a : Int} (ha : c.toInt = a) (hf : f = some (if P then 1 else 0)) : (if x = c then some 1 else f) = some (if x.toInt = a ∨ P then 1 else 0) := by
  subst ha hf
  by_cases h : x = c
  · rw [if_pos h, if_pos (Or.inl (congrArg _ h))]
  · rw [if_neg h]; exact congrArg some (own_ite ⟨Or.inr, fun q => q.elim (fun q => absurd (Int32.toInt_inj.mp q) h) id⟩ _ _)
theorem own_stepZ {x lo hi : Int32} {a b : Int} (ha : lo.toInt = a) (hb : hi.toInt = b) : (if x < lo then some (0 : Int32) else if hi < x then some 0 else some 1) = some (if a ≤ x.toInt ∧ x.toInt ≤ b then 1 else 0) := by
  subst ha hb
  simp only [Int32.lt_iff_toInt_lt]
  split
  · rw [if_neg (by omega)]
  · split
    · rw [if_neg (by omega)]
    · rw [if_pos (by omega)]
theorem own_c1_179 (x : Int32) : f1_179 x = some (if (65536 ≤ x.toInt ∧ x.toInt ≤ 983039) then 1 else 0) := own_stepZ rfl rfl
theorem own_c1_167 (x : Int32) : f1_167 x = some (if (65008 ≤ x.toInt ∧ x.toInt ≤ 65533) ∨ (65536 ≤ x.toInt ∧ x.toInt ≤ 983039) then 1 else 0) := own_stepI rfl rfl (own_c1_179 x)
theorem own_c1_155 (x : Int32) : f1_155 x = some (if (63744 ≤ x.toInt ∧ x.toInt ≤ 64975) ∨ (65008 ≤ x.toInt ∧ x.toInt ≤ 65533) ∨ (65536 ≤ x.toInt ∧ x.toInt ≤ 983039) then 1 else 0) := own_stepI rfl rfl (own_c1_167 x)
theorem own_c1_142 (x : Int32) : f1_142 x = some (if (12289 ≤ x.toInt ∧ x.toInt ≤ 55295) ∨ (63744 ≤ x.toInt ∧ x.toInt ≤ 64975) ∨ (65008 ≤ x.toInt ∧ x.toInt ≤ 65533) ∨ (65536 ≤ x.toInt ∧ x.toInt ≤ 983039) then 1 else 0) := own_stepI rfl rfl (own_c1_155 x)
theorem own_c1_128 (x : Int32) : f1_128 x = some (if (11264 ≤ x.toInt ∧ x.toInt ≤ 12271) ∨ (12289 ≤ x.toInt ∧ x.toInt ≤ 55295) ∨ (63744 ≤ x.toInt ∧ x.toInt ≤ 64975) ∨ (65008 ≤ x.toInt ∧ x.toInt ≤ 65533) ∨ (65536 ≤ x.toInt ∧ x.toInt ≤ 983039) then 1 else 0) := own_stepI rfl rfl (own_c1_142 x)
theorem own_c1_100 (x : Int32) : f1_100 x = some (if x.toInt = 8204 ∨ x.toInt = 8205 ∨ (8304 ≤ x.toInt ∧ x.toInt ≤ 8591) ∨ (11264 ≤ x.toInt ∧ x.toInt ≤ 12271) ∨ (12289 ≤ x.toInt ∧ x.toInt ≤ 55295) ∨ (63744 ≤ x.toInt ∧ x.toInt ≤ 64975) ∨ (65008 ≤ x.toInt ∧ x.toInt ≤ 65533) ∨ (65536 ≤ x.toInt ∧ x.toInt ≤ 983039) then 1 else 0) := own_stepE rfl (own_stepE rfl (own_stepI rfl rfl (own_c1_128 x)))
theorem own_c1_86 (x : Int32) : f1_86 x = some (if (895 ≤ x.toInt ∧ x.toInt ≤ 8191) ∨ x.toInt = 8204 ∨ x.toInt = 8205 ∨ (8304 ≤ x.toInt ∧ x.toInt ≤ 8591) ∨ (11264 ≤ x.toInt ∧ x.toInt ≤ 12271) ∨ (12289 ≤ x.toInt ∧ x.toInt ≤ 55295) ∨ (63744 ≤ x.toInt ∧ x.toInt ≤ 64975) ∨ (65008 ≤ x.toInt ∧ x.toInt ≤ 65533) ∨ (65536 ≤ x.toInt ∧ x.toInt ≤ 983039) then 1 else 0) := own_stepI rfl rfl (own_c1_100 x)
theorem own_c1_72 (x : Int32) : f1_72 x = some (if (880 ≤ x.toInt ∧ x.toInt ≤ 893) ∨ (895 ≤ x.toInt ∧ x.toInt ≤ 8191) ∨ x.toInt = 8204 ∨ x.toInt = 8205 ∨ (8304 ≤ x.toInt ∧ x.toInt ≤ 8591) ∨ (11264 ≤ x.toInt ∧ x.toInt ≤ 12271) ∨ (12289 ≤ x.toInt ∧ x.toInt ≤ 55295) ∨ (63744 ≤ x.toInt ∧ x.toInt ≤ 64975) ∨ (65008 ≤ x.toInt ∧ x.toInt ≤ 65533) ∨ (65536 ≤ x.toInt ∧ x.toInt ≤ 983039) then 1 else 0) := own_stepI rfl rfl (own_c1_86 x)
theorem own_c1_58 (x : Int32) : f1_58 x = some (if (248 ≤ x.toInt ∧ x.toInt ≤ 767) ∨ (880 ≤ x.toInt ∧ x.toInt ≤ 893) ∨ (895 ≤ x.toInt ∧ x.toInt ≤ 8191) ∨ x.toInt = 8204 ∨ x.toInt = 8205 ∨ (8304 ≤ x.toInt ∧ x.toInt ≤ 8591) ∨ (11264 ≤ x.toInt ∧ x.toInt ≤ 12271) ∨ (12289 ≤ x.toInt ∧ x.toInt ≤ 55295) ∨ (63744 ≤ x.toInt ∧ x.toInt ≤ 64975) ∨ (65008 ≤ x.toInt ∧ x.toInt ≤ 65533) ∨ (65536 ≤ x.toInt ∧ x.toInt ≤ 983039) then 1 else 0) := own_stepI rfl rfl (own_c1_72 x)
theorem own_c1_44 (x : Int32) : f1_44 x = some (if (216 ≤ x.toInt ∧ x.toInt ≤ 246) ∨ (248 ≤ x.toInt ∧ x.toInt ≤ 767) ∨ (880 ≤ x.toInt ∧ x.toInt ≤ 893) ∨ (895 ≤ x.toInt ∧ x.toInt ≤ 8191) ∨ x.toInt = 8204 ∨ x.toInt = 8205 ∨ (8304 ≤ x.toInt ∧ x.toInt ≤ 8591) ∨ (11264 ≤ x.toInt ∧ x.toInt ≤ 12271) ∨ (12289 ≤ x.toInt ∧ x.toInt ≤ 55295) ∨ (63744 ≤ x.toInt ∧ x.toInt ≤ 64975) ∨ (65008 ≤ x.toInt ∧ x.toInt ≤ 65533) ∨ (65536 ≤ x.toInt ∧ x.toInt ≤ 983039) then 1 else 0) := own_stepI rfl rfl (own_c1_58 x)
theorem own_c1_24 (x : Int32) : f1_24 x = some (if x.toInt = 95 ∨ (192 ≤ x.toInt ∧ x.toInt ≤ 214) ∨ (216 ≤ x.toInt ∧ x.toInt ≤ 246) ∨ (248 ≤ x.toInt ∧ x.toInt ≤ 767) ∨ (880 ≤ x.toInt ∧ x.toInt ≤ 893) ∨ (895 ≤ x.toInt ∧ x.toInt ≤ 8191) ∨ x.toInt = 8204 ∨ x.toInt = 8205 ∨ (8304 ≤ x.toInt ∧ x.toInt ≤ 8591) ∨ (11264 ≤ x.toInt ∧ x.toInt ≤ 12271) ∨ (12289 ≤ x.toInt ∧ x.toInt ≤ 55295) ∨ (63744 ≤ x.toInt ∧ x.toInt ≤ 64975) ∨ (65008 ≤ x.toInt ∧ x.toInt ≤ 65533) ∨ (65536 ≤ x.toInt ∧ x.toInt ≤ 983039) then 1 else 0) := own_stepE rfl (own_stepI rfl rfl (own_c1_44 x))
theorem own_c1_12 (x : Int32) : f1_12 x = some (if (65 ≤ x.toInt ∧ x.toInt ≤ 90) ∨ x.toInt = 95 ∨ (192 ≤ x.toInt ∧ x.toInt ≤ 214) ∨ (216 ≤ x.toInt ∧ x.toInt ≤ 246) ∨ (248 ≤ x.toInt ∧ x.toInt ≤ 767) ∨ (880 ≤ x.toInt ∧ x.toInt ≤ 893) ∨ (895 ≤ x.toInt ∧ x.toInt ≤ 8191) ∨ x.toInt = 8204 ∨ x.toInt = 8205 ∨ (8304 ≤ x.toInt ∧ x.toInt ≤ 8591) ∨ (11264 ≤ x.toInt ∧ x.toInt ≤ 12271) ∨ (12289 ≤ x.toInt ∧ x.toInt ≤ 55295) ∨ (63744 ≤ x.toInt ∧ x.toInt ≤ 64975) ∨ (65008 ≤ x.toInt ∧ x.toInt ≤ 65533) ∨ (65536 ≤ x.toInt ∧ x.toInt ≤ 983039) then 1 else 0) := own_stepI rfl rfl (own_c1_24 x)
theorem own_c1_0 (x : Int32) : f1_0 x = some (if (97 ≤ x.toInt ∧ x.toInt ≤ 122) ∨ (65 ≤ x.toInt ∧ x.toInt ≤ 90) ∨ x.toInt = 95 ∨ (192 ≤ x.toInt ∧ x.toInt ≤ 214) ∨ (216 ≤ x.toInt ∧ x.toInt ≤ 246) ∨ (248 ≤ x.toInt ∧ x.toInt ≤ 767) ∨ (880 ≤ x.toInt ∧ x.toInt ≤ 893) ∨ (895 ≤ x.toInt ∧ x.toInt ≤ 8191) ∨ x.toInt = 8204 ∨ x.toInt = 8205 ∨ (8304 ≤ x.toInt ∧ x.toInt ≤ 8591) ∨ (11264 ≤ x.toInt ∧ x.toInt ≤ 12271) ∨ (12289 ≤ x.toInt ∧ x.toInt ≤ 55295) ∨ (63744 ≤ x.toInt ∧ x.toInt ≤ 64975) ∨ (65008 ≤ x.toInt ∧ x.toInt ≤ 65533) ∨ (65536 ≤ x.toInt ∧ x.toInt ≤ 983039) then 1 else 0) := own_stepI rfl rfl (own_c1_12 x)
theorem own_ex (x : Int32) : f2_0 x = some (if (97 ≤ x.toInt ∧ x.toInt ≤ 122) ∨ (65 ≤ x.toInt ∧ x.toInt ≤ 90) ∨ x.toInt = 95 ∨ (192 ≤ x.toInt ∧ x.toInt ≤ 214) ∨ (216 ≤ x.toInt ∧ x.toInt ≤ 246) ∨ (248 ≤ x.toInt ∧ x.toInt ≤ 767) ∨ (880 ≤ x.toInt ∧ x.toInt ≤ 893) ∨ (895 ≤ x.toInt ∧ x.toInt ≤ 8191) ∨ x.toInt = 8204 ∨ x.toInt = 8205 ∨ (8304 ≤ x.toInt ∧ x.toInt ≤ 8591) ∨ (11264 ≤ x.toInt ∧ x.toInt ≤ 12271) ∨ (12289 ≤ x.toInt ∧ x.toInt ≤ 55295) ∨ (63744 ≤ x.toInt ∧ x.toInt ≤ 64975) ∨ (65008 ≤ x.toInt ∧ x.toInt ≤ 65533) ∨ (65536 ≤ x.toInt ∧ x.toInt ≤ 983039) then 0 else 1) := by
  unfold f2_0 f2_207 f2_219 f2_141 f2_155 f2_169 f2_107 f2_34
  have l65 : (65 : Int32).toInt = 65 := rfl
  have l91 : (91 : Int32).toInt = 91 := rfl
  have l94 : (94 : Int32).toInt = 94 := rfl
  have l96 : (96 : Int32).toInt = 96 := rfl
  have l123 : (123 : Int32).toInt = 123 := rfl
  have l127 : (127 : Int32).toInt = 127 := rfl
  have l191 : (191 : Int32).toInt = 191 := rfl
  have l215 : (215 : Int32).toInt = 215 := rfl
  have l247 : (247 : Int32).toInt = 247 := rfl
  have l255 : (255 : Int32).toInt = 255 := rfl
  have l768 : (768 : Int32).toInt = 768 := rfl
  have l879 : (879 : Int32).toInt = 879 := rfl
  have l894 : (894 : Int32).toInt = 894 := rfl
  have l8191 : (8191 : Int32).toInt = 8191 := rfl
  have l8192 : (8192 : Int32).toInt = 8192 := rfl
  have l8203 : (8203 : Int32).toInt = 8203 := rfl
  have l8206 : (8206 : Int32).toInt = 8206 := rfl
  have l8303 : (8303 : Int32).toInt = 8303 := rfl
  have l8592 : (8592 : Int32).toInt = 8592 := rfl
  have l11263 : (11263 : Int32).toInt = 11263 := rfl
  have l12272 : (12272 : Int32).toInt = 12272 := rfl
  have l12287 : (12287 : Int32).toInt = 12287 := rfl
  have l12288 : (12288 : Int32).toInt = 12288 := rfl
  have l55296 : (55296 : Int32).toInt = 55296 := rfl
  have l63743 : (63743 : Int32).toInt = 63743 := rfl
  have l64976 : (64976 : Int32).toInt = 64976 := rfl
  have l65007 : (65007 : Int32).toInt = 65007 := rfl
  have l65534 : (65534 : Int32).toInt = 65534 := rfl
  have l65535 : (65535 : Int32).toInt = 65535 := rfl
  have l983039 : (983039 : Int32).toInt = 983039 := rfl
  simp only [← Int32.toInt_inj, Int32.lt_iff_toInt_lt, l65, l91, l94, l96, l123, l127, l191, l215, l247, l255, l768, l879, l894, l8191, l8192, l8203, l8206, l8303, l8592, l11263, l12272, l12287, l12288, l55296, l63743, l64976, l65007, l65534, l65535, l983039]
  clear l65 l91 l94 l96 l123 l127 l191 l215 l247 l255 l768 l879 l894 l8191 l8192 l8203 l8206 l8303 l8592 l11263 l12272 l12287 l12288 l55296 l63743 l64976 l65007 l65534 l65535 l983039
  generalize x.toInt = n
  repeat' refine own_if (fun _ => ?_) (fun _ => ?_)
  all_goals first | (exfalso; omega) | exact congrArg some (if_neg (by omega)).symm | exact congrArg some (if_pos (by omega)).symm

theorem own_45 (x : Int32) : f0_45 x = some 1 := by
  unfold f0_45
  rw [own_c1_0, own_ex, Option.bind_some, Option.bind_some]
  split <;> rfl
theorem own_law (x0 : Int32) (x1 : Int32) : f0_0 x0 x1 = some 1 := by
  unfold f0_0
  repeat' split
  all_goals exact own_45 _

set_option maxRecDepth 65536 in
set_option maxHeartbeats 40000000 in
theorem comes_1 {Post : Tables → Env → Array Value → State → Outcome → State → Prop} (hpost : ∀ tb e args s v u, (limb_1_1.after args s (.returned v) u = true ∧ limb_1_2.after args s (.returned v) u = true ∧ True) → FrameEnd s (.returned v) u (Jvm.fieldLocs frame_1_writes args s ++ Jvm.arrayLocs frame_1_arrays args s ++ Jvm.staticLocs frame_1_statics s) 0 0 → Post tb e args s (.returned v) u) :
    ArmFor flags0 classFile x code maxLocals ret World_1 tables_1 room_1 Calls_1 rest_1 Pre_1 Post := by
  intro l hfl _ _ p e ha hc hk s m args below hf hA hF happ hP
  obtain ⟨hcalls, hrest, hpre⟩ := hP
  obtain ⟨-, -, -, hnamed, -, -, -, hat⟩ := (Spec.applies_iff hf).mp happ
  obtain ⟨hg, hn⟩ := and_e (Cond.before_iff.mp (show (Jvm.Cond.and given_1 narrow_1).before args s = true from hpre))
  obtain ⟨hcnt, q0⟩ := and_e hg
  obtain ⟨p0, q1⟩ := and_e q0
  obtain ⟨w0, w1, rfl⟩ : ∃ w0 w1 : Value, args = #[w0, w1] := by
    have hs : args.size = 2 := by simpa [Cond.value, given_1] using hcnt
    obtain ⟨L⟩ := args
    match L, hs with
    | [w0, w1], _ => exact ⟨w0, w1, rfl⟩
  have hw := fun d (hd : d ∈ tables_1) => atoms_spec (ws := Jvm.Cond.code x code maxLocals ret :: tables_1) hat d (List.mem_cons_of_mem _ hd)
  obtain ⟨i0, c0⟩ := is_v p0
  obtain rfl : w0 = (.int i0) := Option.some.inj c0
  obtain ⟨i1, c1⟩ := is_v q1
  obtain rfl : w1 = (.int i1) := Option.some.inj c1
  obtain ⟨n, o, h1, h2, h3, _, L, rfl, ⟨rfl, N⟩, hq⟩ := rm0 l s _ hw tables_1 i0 i1 s.heap s.heap.size (Nat.le_refl _) 1 (own_law i0 i1) p e ha hc hk s m _ below hf ((Spec.applies_iff_loose hf).mp happ).1 ⟨rfl, State.Warmed39.refl s, rfl⟩ trivial
  refine ⟨n, _, h1, h2, h3, hpost _ _ _ _ _ _ ⟨Cond.after_iff.mpr rfl, Cond.after_iff.mpr (eq_i res_at (Term.int_eval (1)) rfl), trivial⟩ ⟨hq.1, hq.2.1, (hq.2.2.sift fun y hy => Or.inr (N y hy)).mono (by decide) (by decide)⟩⟩
theorem main_1_1 : Claimed_1_1 := comes_1 fun _ _ _ _ _ _ h hF => ⟨h.1, hF⟩
theorem main_1_2 : Claimed_1_2 := comes_1 fun _ _ _ _ _ _ h hF => ⟨h.2.1, hF⟩
end Jvm.Pilot.@@N@@
namespace Jvm.Pilot.@@N@@
open Jvm Jvm.ClassFile Sem Op Lib Jvm.Free Jvm.Stand Jvm.Pilot.@@N@@.Jvm.D
/-! MADE BY PROGRAM (witnessworld.py) out of the Statement's table words and the real class files: 9 classes; the members and pool entries that the words name. The judged class is class 1, her method 1. -/
namespace start1
open Jvm.ClassFile
def u (s : String) : CpInfo := .utf8 (stringToUtf16 s)
/-- a pool by its gaps: so many unusable entries, then the entry; so many at the end -/
def gap : Nat → List CpInfo → List CpInfo
  | 0, r => r
  | n + 1, r => .unusable :: gap n r
def poolList (es : List (Nat × CpInfo)) (last : Nat) : List CpInfo := es.foldr (fun e r => gap e.1 (e.2 :: r)) (gap last [])
def pool (es : List (Nat × CpInfo)) (last : Nat) : Array CpInfo := ⟨poolList es last⟩
def fileOf (pool : Array CpInfo) (this : Nat) (attrs : Array Attribute := #[]) (ms : Array MethodInfo := #[]) (fl : Nat := 33) (sup : Nat := 0) (ifs : Array Nat := #[]) (fds : Array FieldInfo := #[]) : ClassFile where
  minorVersion := 0
  majorVersion := 65
  constantPool := pool
  accessFlags := fl
  thisClass := this
  superClass := sup
  interfaces := ifs
  fields := fds
  methods := ms
  attributes := attrs
def plain (name : String) (sup : Option ClassId) : Class where
  name := name
  kind := .ordinary
  loader := none
  accessFlags := 33
  super := sup
  interfaces := #[]
  cf := none
  fields := #[]
  methods := #[]
  instanceTypes := #[]
  staticTypes := #[]
  resolved := #[]
  callSites := []
  init := .initialized
  statics := none
  mirror := none

def pool0 : Array CpInfo := pool [(5, u "<init>"), (0, u "()V"), (1, .class_ 10), (1, u "java/lang/Object")] 113

def k0m0 : Method := { name := "<init>", desc := "()V", sig := { parameters := [], returnType := none }, accessFlags := 1, code := none }
/-- java/lang/Object -/
def k0 : Class := { plain "java/lang/Object" none with
  accessFlags := 33
  interfaces := #[]
  cf := some (fileOf pool0 8 #[] #[{ accessFlags := 1, nameIndex := 5, descriptorIndex := 6, attributes := #[] }] 33 0 #[] #[])
  fields := #[]
  methods := #[k0m0]
  instanceTypes := #[]
  staticTypes := #[]
  resolved := Array.replicate 124 none
  statics := none }

def pool1 : Array CpInfo := pool [(2, .class_ 4), (1, u "java/lang/Object"), (0, u "<init>"), (0, u "()V"), (0, .integer 65535), (0, .integer 2097151), (0, .methodref 10 11), (0, .class_ 12), (0, .nameAndType 13 14), (0, u "com/example/sleyreed/sleyreed/xpath/Names"), (0, u "isNameStart"), (0, u "(I)Z"), (0, .methodref 16 17), (0, .class_ 18), (0, .nameAndType 19 14), (0, u "com/example/sleyreed/sleyreed/xpath/NamesIsNameStartPinLaw"), (0, u "excluded"), (0, .integer 983039), (0, .integer 55296), (0, .integer 63743), (0, .integer 64976), (0, .integer 65007), (0, .integer 65534), (2, u "law"), (0, u "(II)Z")] 3

def k1m0 : Method := { name := "<init>", desc := "()V", sig := { parameters := [], returnType := none }, accessFlags := 2, code := none }
def k1c1 : Code := { maxStack := 2, maxLocals := 4, code := code, exceptionTable := #[], attributes := #[] }
def k1m1 : Method := { name := "law", desc := "(II)Z", sig := { parameters := [.int, .int], returnType := some .boolean }, accessFlags := 9, code := some k1c1 }
def k1c2 : Code := { maxStack := 2, maxLocals := 1, code := method_3_code, exceptionTable := #[], attributes := #[] }
def k1m2 : Method := { name := "excluded", desc := "(I)Z", sig := { parameters := [.int], returnType := some .boolean }, accessFlags := 10, code := some k1c2 }
/-- com/example/sleyreed/sleyreed/xpath/NamesIsNameStartPinLaw -/
def k1 : Class := { plain "com/example/sleyreed/sleyreed/xpath/NamesIsNameStartPinLaw" (some 0) with
  accessFlags := 49
  interfaces := #[]
  cf := some (fileOf pool1 16 #[] #[{ accessFlags := 2, nameIndex := 5, descriptorIndex := 6, attributes := #[] }, { accessFlags := 9, nameIndex := 28, descriptorIndex := 29, attributes := #[] }, { accessFlags := 10, nameIndex := 19, descriptorIndex := 14, attributes := #[] }] 49 2 #[] #[])
  fields := #[]
  methods := #[k1m0, k1m1, k1m2]
  instanceTypes := #[]
  staticTypes := #[]
  resolved := Array.replicate 33 none
  statics := none }

def pool2 : Array CpInfo := pool [(2, .class_ 4), (1, u "java/lang/Object"), (0, u "<init>"), (0, u "()V"), (0, .integer 55295), (0, .integer 63744), (0, .integer 64975), (0, .integer 65008), (0, .integer 65533), (0, .integer 65536), (0, .integer 983039), (1, .class_ 17), (1, u "com/example/sleyreed/sleyreed/xpath/Names"), (0, u "isNameStart"), (0, u "(I)Z")] 42

def k2m0 : Method := { name := "<init>", desc := "()V", sig := { parameters := [], returnType := none }, accessFlags := 2, code := none }
def k2c1 : Code := { maxStack := 2, maxLocals := 1, code := prog_86_method_2_code, exceptionTable := #[], attributes := #[] }
def k2m1 : Method := { name := "isNameStart", desc := "(I)Z", sig := { parameters := [.int], returnType := some .boolean }, accessFlags := 9, code := some k2c1 }
/-- com/example/sleyreed/sleyreed/xpath/Names -/
def k2 : Class := { plain "com/example/sleyreed/sleyreed/xpath/Names" (some 0) with
  accessFlags := 49
  interfaces := #[]
  cf := some (fileOf pool2 15 #[] #[{ accessFlags := 2, nameIndex := 5, descriptorIndex := 6, attributes := #[] }, { accessFlags := 9, nameIndex := 18, descriptorIndex := 19, attributes := #[] }] 49 2 #[] #[])
  fields := #[]
  methods := #[k2m0, k2m1]
  instanceTypes := #[]
  staticTypes := #[]
  resolved := Array.replicate 62 none
  statics := none }

def pool3 : Array CpInfo := pool [(1, u "java/lang/Cloneable"), (0, .class_ 1), (0, u "java/lang/Object"), (0, .class_ 3)] 3

/-- java/lang/Cloneable -/
def k3 : Class := { plain "java/lang/Cloneable" (some 0) with
  accessFlags := 1537
  interfaces := #[]
  cf := some (fileOf pool3 2 #[] #[] 1537 4 #[] #[])
  fields := #[]
  methods := #[]
  instanceTypes := #[]
  staticTypes := #[]
  resolved := Array.replicate 8 none
  statics := none }

def pool4 : Array CpInfo := pool [(1, u "java/io/Serializable"), (0, .class_ 1), (0, u "java/lang/Object"), (0, .class_ 3)] 3

/-- java/io/Serializable -/
def k4 : Class := { plain "java/io/Serializable" (some 0) with
  accessFlags := 1537
  interfaces := #[]
  cf := some (fileOf pool4 2 #[] #[] 1537 4 #[] #[])
  fields := #[]
  methods := #[]
  instanceTypes := #[]
  staticTypes := #[]
  resolved := Array.replicate 8 none
  statics := none }

/-- the primitive byte -/
def k5 : Class := { plain "byte" none with kind := .primitive 'B', accessFlags := 0x411 }
/-- [B -/
def k6 : Class := { plain "[B" (some 0) with kind := .array 5 .byte, interfaces := #[3, 4], accessFlags := 1041 }

/-- the primitive int -/
def k7 : Class := { plain "int" none with kind := .primitive 'I', accessFlags := 0x411 }
/-- [I -/
def k8 : Class := { plain "[I" (some 0) with kind := .array 7 .int, interfaces := #[3, 4], accessFlags := 1041 }

def heap : Heap := #[]
def classes : Array Class := #[k0, k1, k2, k3, k4, k5, k6, k7, k8]
def interned : List (Array UInt16 × Addr) := []
def slotsUsed : Nat := 0
def theMethod : MethodId := ⟨1, 1⟩
def args0 : Array Value := #[.int 5, .int 5]
def aboutOver (below : List Frame) : State where
  vm := { classes := classes, interned := interned.toArray }
  heap := heap
  slotsUsed := slotsUsed
  threads := #[{ frames := .invoking theMethod args0 :: below }]
def below0 : List Frame := [.native { method := ⟨0, 0⟩, args := #[] }]
def about1 : State := aboutOver below0
def p0 : Program := .bare "" "" ""
def e0 : Env := launch0.env 0 0 0
theorem w_frames : about1.frames = Frame.invoking theMethod args0 :: below0 := rfl
set_option maxRecDepth 65536 in
theorem w_args : argsFit about1.vm theMethod args0 = true := by decide +kernel
set_option maxRecDepth 65536 in
theorem w_heap : heapFits about1 = true := by decide +kernel
set_option maxRecDepth 65536 in
theorem w_runnable : about1.curStatus? = some .runnable := by decide +kernel
set_option maxRecDepth 65536 in
theorem w_alone : about1.alone = true := by decide +kernel
set_option maxRecDepth 65536 in
theorem w_named : about1.methodNamed? x = some theMethod := by decide +kernel
set_option maxRecDepth 65536 in
theorem w_hears : about1.hears theMethod below0 = true := by decide +kernel
set_option maxRecDepth 65536 in
theorem w_ripe : about1.ripe theMethod args0 below0 = true := by decide +kernel
theorem w_running : about1.status = .running := rfl
set_option maxRecDepth 65536 in
theorem w_room : about1.hasRoom e0.platform room_1 = true :=
  launch0.hasRoom_least _ room_1 (by decide +kernel) (by decide +kernel) (by decide +kernel) (by decide +kernel) (by decide +kernel) (by decide +kernel)
theorem allAtoms_all (ts : List Jvm.Cond) (a : Array Jvm.Value) (st : Jvm.State) : (allAtoms ts).before a st = ts.all (fun c => c.before a st) := by
  induction ts with
  | nil => rfl
  | cons c t ih =>
    show (Jvm.Cond.and c (allAtoms t)).before a st = _
    rw [Jvm.Cond.before_and, ih, List.all_cons]
def words1 : List Jvm.Cond := Jvm.Cond.code x code maxLocals ret :: tables_1
/-- a 'code' word, met by the world's own term for the bytes: nothing is compared byte by byte -/
theorem code_word {y : MethodName} {bytes : ByteArray} {mx : Nat} {rt : Option FieldType} {a : Array Value} {s : State} {m : MethodId} {meth : Method} {c : Code} (h1 : s.methodNamed? y = some m) (h2 : s.vm.method? m = some meth) (h3 : meth.code = some c) (h4 : c.code = bytes)
    (h5 : (c.maxLocals == mx && c.exceptionTable.isEmpty && decide (c.maxStack ≤ mostOperands) && decide (meth.sig.returnType = rt) && !meth.locks && decide (parseMethodDescriptor y.desc = some meth.sig)) = true) : (Jvm.Cond.code y bytes mx rt).before a s = true := by
  simp only [Bool.and_eq_true, beq_iff_eq, Bool.not_eq_true', decide_eq_true_eq] at h5
  obtain ⟨⟨⟨⟨⟨g1, g2⟩, g3⟩, g4⟩, g5⟩, g6⟩ := h5
  simp [Cond.before, Cond.holds, Cond.value, h1, h2, h3, h4, g1, g2, g3, g4, g5, g6]
def isCode : Jvm.Cond → Bool
  | .code _ _ _ _ => true
  | _ => false
theorem all_split {L : List Jvm.Cond} {P : Jvm.Cond → Bool} (h1 : L.all (fun c => isCode c || P c) = true) (h2 : ∀ c ∈ L.filter isCode, P c = true) : L.all P = true := by
  refine List.all_eq_true.mpr fun c hc => ?_
  have h := List.all_eq_true.mp h1 c hc
  rcases Bool.eq_false_or_eq_true (isCode c) with hi | hi
  · exact h2 c (List.mem_filter.mpr ⟨hc, hi⟩)
  · simpa [hi] using h
set_option maxRecDepth 65536 in
theorem w_c0 : (Jvm.Cond.code x code maxLocals ret).before args0 about1 = true := code_word (m := ⟨1, 1⟩) (meth := k1m1) (c := k1c1) (by decide +kernel) rfl rfl rfl (by decide +kernel)
set_option maxRecDepth 65536 in
theorem w_c1 : (Jvm.Cond.code ({ cls := "com/example/sleyreed/sleyreed/xpath/Names", name := "isNameStart", desc := "(I)Z" } : Jvm.MethodName) prog_86_method_2_code (1 : Nat) (Option.some Jvm.ClassFile.FieldType.boolean)).before args0 about1 = true := code_word (m := ⟨2, 1⟩) (meth := k2m1) (c := k2c1) (by decide +kernel) rfl rfl rfl (by decide +kernel)
set_option maxRecDepth 65536 in
theorem w_c2 : (Jvm.Cond.code ({ cls := "com/example/sleyreed/sleyreed/xpath/NamesIsNameStartPinLaw", name := "excluded", desc := "(I)Z" } : Jvm.MethodName) method_3_code (1 : Nat) (Option.some Jvm.ClassFile.FieldType.boolean)).before args0 about1 = true := code_word (m := ⟨1, 2⟩) (meth := k1m2) (c := k1c2) (by decide +kernel) rfl rfl rfl (by decide +kernel)
def codes1 : List Jvm.Cond := [Jvm.Cond.code x code maxLocals ret, Jvm.Cond.code ({ cls := "com/example/sleyreed/sleyreed/xpath/Names", name := "isNameStart", desc := "(I)Z" } : Jvm.MethodName) prog_86_method_2_code (1 : Nat) (Option.some Jvm.ClassFile.FieldType.boolean), Jvm.Cond.code ({ cls := "com/example/sleyreed/sleyreed/xpath/NamesIsNameStartPinLaw", name := "excluded", desc := "(I)Z" } : Jvm.MethodName) method_3_code (1 : Nat) (Option.some Jvm.ClassFile.FieldType.boolean)]
set_option maxRecDepth 65536 in
theorem codes_eq : words1.filter isCode = codes1 := rfl
theorem w_codes : ∀ c ∈ words1.filter isCode, c.before args0 about1 = true := by
  rw [codes_eq]
  intro c hc
  simp only [codes1, List.mem_cons, List.not_mem_nil, or_false] at hc
  rcases hc with rfl | rfl | rfl
  · exact w_c0
  · exact w_c1
  · exact w_c2
set_option maxRecDepth 65536 in
theorem w_t1 : words1.all (fun c => isCode c || c.before args0 about1) = true := by decide +kernel
theorem w_tables : (allAtoms (Jvm.Cond.code x code maxLocals ret :: tables_1)).before args0 about1 = true := by
  rw [allAtoms_all]
  show words1.all (fun c => c.before args0 about1) = true
  refine all_split ?_ w_codes
  rw [w_t1]
set_option maxRecDepth 65536 in
theorem w_case : (Jvm.Cond.and given_1 narrow_1).before args0 about1 = true := by decide +kernel
theorem w_applies : (headSpec (Jvm.Cond.code x code maxLocals ret :: tables_1) room_1).applies x e0.platform about1 = true :=
  (Spec.applies_iff w_frames).mpr ⟨w_running, w_runnable, w_alone, w_named, w_hears, w_ripe, w_room, w_tables⟩
theorem atStart : AtStart classFile x code maxLocals ret World_1 tables_1 room_1 Calls_1 rest_1 Pre_1 launch0 p0 e0 about1 theMethod args0 below0 :=
  ⟨lists_1, trivial, launch0.admits_env _ _ _, launch0.least_env, fairChoices_fair.cas, fairChoices_fair.clock, w_frames, w_args, w_heap, w_applies, trivial, trivial, w_case⟩
end start1
theorem witness_1 : WitnessClaimed_1 := ⟨start1.p0, start1.e0, start1.about1, start1.theMethod, start1.args0, start1.below0, start1.atStart⟩
end Jvm.Pilot.@@N@@
