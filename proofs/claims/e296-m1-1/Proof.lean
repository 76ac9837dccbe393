import JvmDerived
import JvmDerived.Pilot.@@N@@Statement
import JvmDerived.Pilot.@@N@@Code
set_option linter.unusedVariables false
set_option linter.unusedSimpArgs false
namespace Jvm.Pilot.@@N@@
open Jvm Jvm.ClassFile Sem Op Lib Jvm.Free Jvm.Stand Jvm.LawKit Jvm.RoadKit Bundle Jvm.Pilot.@@N@@.Jvm.D

/-- from here the invocation ends, and what it leaves meets Q -/
def Go (p : Program) (e : Env) (below : List Frame) (s : State) (mc ms : Nat) (Q : Option Value → Heap → List Loc → Prop) (m : MethodId) (T : State) (pc : Nat) (Ls : Array Slot) (st : List Value) : Prop :=
  ∃ s₂ o, Steps p.tables e below (T.setTop (mkF m pc Ls st)) s₂ ∧ s₂.status = .running ∧ Ended s₂ below o ∧ ∃ v L, o = .returned v ∧ Q v s₂.heap L ∧ FrameEnd s o s₂ L mc ms
section Law
variable {p : Program} {l : Launch} {e : Env} {R : Room} {s : State} {m : MethodId} {args : Array Value} {below : List Frame} {meth : Method} {c : Code} {T T' : State} {locs : List Loc} {cells slots : Nat} {code : ByteArray} {Q : Option Value → Heap → List Loc → Prop} {mc ms : Nat} {pc pc' : Nat} {Ls Ls' : Array Slot} {st st' rest : List Value}
theorem Go.of (k : Go p e below s mc ms Q m T' pc' Ls' st') (h : ∀ t, Steps p.tables e below (T'.setTop (mkF m pc' Ls' st')) t → Steps p.tables e below (T.setTop (mkF m pc Ls st)) t) : Go p e below s mc ms Q m T pc Ls st := by
  obtain ⟨a, o, h1, h2⟩ := k
  exact ⟨a, o, h _ h1, h2⟩
def remI (x y : Int32) : Int32 := x - (x / y) * y
def remJ (x y : Int64) : Int64 := x - (x / y) * y
def i2bF (x : Int32) : Int32 := x.toInt8.toInt32
def i2cF (x : Int32) : Int32 := x.toUInt32.toUInt16.toUInt32.toInt32
def i2sF (x : Int32) : Int32 := x.toInt16.toInt32
def shlI (x y : Int32) : Int32 := x <<< (y &&& 31)
def shrI (x y : Int32) : Int32 := x >>> (y &&& 31)
def shlJ (x : Int64) (y : Int32) : Int64 := x <<< (y.toInt64 &&& 63)
def shrJ (x : Int64) (y : Int32) : Int64 := x >>> (y.toInt64 &&& 63)

theorem Go.iload (X : Stand p l e R s m args below meth c T locs cells slots) (hx : p.tables.exec = Jvm.exec) (hby : c.code = code) {k : Nat} {v : Int32} (hd : decode code pc = .ok (.iload k, 2)) (hpc : pc + 2 = pc') (hl : Ls[k]? = some (.val (.int v))) (h : Go p e below s mc ms Q m T pc' Ls (.int v :: st)) : Go p e below s mc ms Q m T pc Ls (st) := by
  subst hpc; exact h.of fun _ kk => XS.iload (g := mkF m pc Ls (st)) X.here hx rfl (hb hby hd) hl kk
theorem Go.iloadN (X : Stand p l e R s m args below meth c T locs cells slots) (hx : p.tables.exec = Jvm.exec) (hby : c.code = code) {k : Fin 4} {v : Int32} (hd : decode code pc = .ok (.iload_n k, 1)) (hpc : pc + 1 = pc') (hl : Ls[k.val]? = some (.val (.int v))) (h : Go p e below s mc ms Q m T pc' Ls (.int v :: st)) : Go p e below s mc ms Q m T pc Ls (st) := by
  subst hpc; exact h.of fun _ kk => XS.iloadN (g := mkF m pc Ls (st)) X.here hx rfl (hb hby hd) hl kk
theorem Go.lload (X : Stand p l e R s m args below meth c T locs cells slots) (hx : p.tables.exec = Jvm.exec) (hby : c.code = code) {k : Nat} {v : Int64} (hd : decode code pc = .ok (.lload k, 2)) (hpc : pc + 2 = pc') (hl : Ls[k]? = some (.val (.long v))) (h : Go p e below s mc ms Q m T pc' Ls (.long v :: st)) : Go p e below s mc ms Q m T pc Ls (st) := by
  subst hpc; exact h.of fun _ kk => XT.lload (g := mkF m pc Ls (st)) X.here hx rfl (hb hby hd) hl kk
theorem Go.lloadN (X : Stand p l e R s m args below meth c T locs cells slots) (hx : p.tables.exec = Jvm.exec) (hby : c.code = code) {k : Fin 4} {v : Int64} (hd : decode code pc = .ok (.lload_n k, 1)) (hpc : pc + 1 = pc') (hl : Ls[k.val]? = some (.val (.long v))) (h : Go p e below s mc ms Q m T pc' Ls (.long v :: st)) : Go p e below s mc ms Q m T pc Ls (st) := by
  subst hpc; exact h.of fun _ kk => XT.lloadN (g := mkF m pc Ls (st)) X.here hx rfl (hb hby hd) hl kk
theorem Go.aload (X : Stand p l e R s m args below meth c T locs cells slots) (hx : p.tables.exec = Jvm.exec) (hby : c.code = code) {k : Nat} {v : Value} (hd : decode code pc = .ok (.aload k, 2)) (hpc : pc + 2 = pc') (hl : Ls[k]? = some (.val v)) (hv : v.isRef = true) (h : Go p e below s mc ms Q m T pc' Ls (v :: st)) : Go p e below s mc ms Q m T pc Ls (st) := by
  subst hpc; exact h.of fun _ kk => XS.aload (g := mkF m pc Ls (st)) X.here hx rfl (hb hby hd) hl hv kk
theorem Go.aloadN (X : Stand p l e R s m args below meth c T locs cells slots) (hx : p.tables.exec = Jvm.exec) (hby : c.code = code) {k : Fin 4} {v : Value} (hd : decode code pc = .ok (.aload_n k, 1)) (hpc : pc + 1 = pc') (hl : Ls[k.val]? = some (.val v)) (hv : v.isRef = true) (h : Go p e below s mc ms Q m T pc' Ls (v :: st)) : Go p e below s mc ms Q m T pc Ls (st) := by
  subst hpc; exact h.of fun _ kk => XS.aloadN (g := mkF m pc Ls (st)) X.here hx rfl (hb hby hd) hl hv kk
theorem Go.istore (X : Stand p l e R s m args below meth c T locs cells slots) (hx : p.tables.exec = Jvm.exec) (hby : c.code = code) {k : Nat} {v : Int32} (hd : decode code pc = .ok (.istore k, 2)) (hpc : pc + 2 = pc') (hl : storeLocals Ls k (.int v) = some Ls') (h : Go p e below s mc ms Q m T pc' Ls' (st)) : Go p e below s mc ms Q m T pc Ls (.int v :: st) := by
  subst hpc; exact h.of fun _ kk => XS.istore (g := mkF m pc Ls (.int v :: st)) X.here hx rfl (hb hby hd) rfl hl kk
theorem Go.istoreN (X : Stand p l e R s m args below meth c T locs cells slots) (hx : p.tables.exec = Jvm.exec) (hby : c.code = code) {k : Fin 4} {v : Int32} (hd : decode code pc = .ok (.istore_n k, 1)) (hpc : pc + 1 = pc') (hl : storeLocals Ls k.val (.int v) = some Ls') (h : Go p e below s mc ms Q m T pc' Ls' (st)) : Go p e below s mc ms Q m T pc Ls (.int v :: st) := by
  subst hpc; exact h.of fun _ kk => XS.istoreN (g := mkF m pc Ls (.int v :: st)) X.here hx rfl (hb hby hd) rfl hl kk
theorem Go.lstore (X : Stand p l e R s m args below meth c T locs cells slots) (hx : p.tables.exec = Jvm.exec) (hby : c.code = code) {k : Nat} {v : Int64} (hd : decode code pc = .ok (.lstore k, 2)) (hpc : pc + 2 = pc') (hl : storeLocals Ls k (.long v) = some Ls') (h : Go p e below s mc ms Q m T pc' Ls' (st)) : Go p e below s mc ms Q m T pc Ls (.long v :: st) := by
  subst hpc; exact h.of fun _ kk => XT.lstore (g := mkF m pc Ls (.long v :: st)) X.here hx rfl (hb hby hd) rfl hl kk
theorem Go.lstoreN (X : Stand p l e R s m args below meth c T locs cells slots) (hx : p.tables.exec = Jvm.exec) (hby : c.code = code) {k : Fin 4} {v : Int64} (hd : decode code pc = .ok (.lstore_n k, 1)) (hpc : pc + 1 = pc') (hl : storeLocals Ls k.val (.long v) = some Ls') (h : Go p e below s mc ms Q m T pc' Ls' (st)) : Go p e below s mc ms Q m T pc Ls (.long v :: st) := by
  subst hpc; exact h.of fun _ kk => XT.lstoreN (g := mkF m pc Ls (.long v :: st)) X.here hx rfl (hb hby hd) rfl hl kk
theorem Go.astore (X : Stand p l e R s m args below meth c T locs cells slots) (hx : p.tables.exec = Jvm.exec) (hby : c.code = code) {k : Nat} {v : Value} (hd : decode code pc = .ok (.astore k, 2)) (hpc : pc + 2 = pc') (hv : v.isRef = true) (hl : storeLocals Ls k v = some Ls') (h : Go p e below s mc ms Q m T pc' Ls' (st)) : Go p e below s mc ms Q m T pc Ls (v :: st) := by
  subst hpc; exact h.of fun _ kk => XS.astore (g := mkF m pc Ls (v :: st)) X.here hx rfl (hb hby hd) rfl hv hl kk
theorem Go.astoreN (X : Stand p l e R s m args below meth c T locs cells slots) (hx : p.tables.exec = Jvm.exec) (hby : c.code = code) {k : Fin 4} {v : Value} (hd : decode code pc = .ok (.astore_n k, 1)) (hpc : pc + 1 = pc') (hv : v.isRef = true) (hl : storeLocals Ls k.val v = some Ls') (h : Go p e below s mc ms Q m T pc' Ls' (st)) : Go p e below s mc ms Q m T pc Ls (v :: st) := by
  subst hpc; exact h.of fun _ kk => XS.astoreN (g := mkF m pc Ls (v :: st)) X.here hx rfl (hb hby hd) rfl hv hl kk
theorem Go.iconst (X : Stand p l e R s m args below meth c T locs cells slots) (hx : p.tables.exec = Jvm.exec) (hby : c.code = code) {i : Int} {v : Int32} (hd : decode code pc = .ok (.iconst i, 1)) (hpc : pc + 1 = pc') (hv : Int32.ofInt i = v) (h : Go p e below s mc ms Q m T pc' Ls (.int v :: st)) : Go p e below s mc ms Q m T pc Ls (st) := by
  subst hpc; exact h.of fun _ kk => XT.iconstV (g := mkF m pc Ls (st)) X.here hx rfl v (hb hby hd) hv kk
theorem Go.bipush (X : Stand p l e R s m args below meth c T locs cells slots) (hx : p.tables.exec = Jvm.exec) (hby : c.code = code) {i : Int} {v : Int32} (hd : decode code pc = .ok (.bipush i, 2)) (hpc : pc + 2 = pc') (hv : (Int8.ofInt i).toInt32 = v) (h : Go p e below s mc ms Q m T pc' Ls (.int v :: st)) : Go p e below s mc ms Q m T pc Ls (st) := by
  subst hpc; exact h.of fun _ kk => XT.bipushV (g := mkF m pc Ls (st)) X.here hx rfl v (hb hby hd) hv kk
theorem Go.sipush (X : Stand p l e R s m args below meth c T locs cells slots) (hx : p.tables.exec = Jvm.exec) (hby : c.code = code) {i : Int} {v : Int32} (hd : decode code pc = .ok (.sipush i, 3)) (hpc : pc + 3 = pc') (hv : (Int16.ofInt i).toInt32 = v) (h : Go p e below s mc ms Q m T pc' Ls (.int v :: st)) : Go p e below s mc ms Q m T pc Ls (st) := by
  subst hpc; exact h.of fun _ kk => XT.sipushV (g := mkF m pc Ls (st)) X.here hx rfl v (hb hby hd) hv kk
theorem Go.lconst (X : Stand p l e R s m args below meth c T locs cells slots) (hx : p.tables.exec = Jvm.exec) (hby : c.code = code) {k : Fin 2} {v : Int64} (hd : decode code pc = .ok (.lconst k, 1)) (hpc : pc + 1 = pc') (hv : Int64.ofNat k = v) (h : Go p e below s mc ms Q m T pc' Ls (.long v :: st)) : Go p e below s mc ms Q m T pc Ls (st) := by
  subst hpc; exact h.of fun _ kk => XT.lconstV (g := mkF m pc Ls (st)) X.here hx rfl v (hb hby hd) hv kk
theorem Go.aconstNull (X : Stand p l e R s m args below meth c T locs cells slots) (hx : p.tables.exec = Jvm.exec) (hby : c.code = code) (hd : decode code pc = .ok (.aconst_null, 1)) (hpc : pc + 1 = pc') (h : Go p e below s mc ms Q m T pc' Ls (.null :: st)) : Go p e below s mc ms Q m T pc Ls (st) := by
  subst hpc; exact h.of fun _ kk => XS.aconstNull (g := mkF m pc Ls (st)) X.here hx rfl (hb hby hd) kk
theorem Go.ldcI (X : Stand p l e R s m args below meth c T locs cells slots) (hx : p.tables.exec = Jvm.exec) (hby : c.code = code) {Z : State} {a0 : Array Value} (hZ : Z.Warmed39 s.vm) {own : String} {k : Nat} {v : Int32} (hown : s.vm.findClass own = some m.cls) (w : (Cond.constant own k v).before a0 Z = true) (hd : decode code pc = .ok (.ldc k, 2)) (hpc : pc + 2 = pc') (h : Go p e below s mc ms Q m T pc' Ls (.int v :: st)) : Go p e below s mc ms Q m T pc Ls (st) := by
  subst hpc; exact h.of fun _ kk => Stand.ldcI (g := mkF m pc Ls (st)) X hx hown (mvT hZ w) rfl (hb hby hd) kk
theorem Go.ldcJ (X : Stand p l e R s m args below meth c T locs cells slots) (hx : p.tables.exec = Jvm.exec) (hby : c.code = code) {Z : State} {a0 : Array Value} (hZ : Z.Warmed39 s.vm) {own : String} {k : Nat} {v : Int64} (hown : s.vm.findClass own = some m.cls) (w : (Cond.constantLong own k v).before a0 Z = true) (hd : decode code pc = .ok (.ldc2_w k, 3)) (hpc : pc + 3 = pc') (h : Go p e below s mc ms Q m T pc' Ls (.long v :: st)) : Go p e below s mc ms Q m T pc Ls (st) := by
  subst hpc; exact h.of fun _ kk => Stand.ldc2J (g := mkF m pc Ls (st)) X hx hown (mvT hZ w) rfl (hb hby hd) kk
theorem Go.iadd (X : Stand p l e R s m args below meth c T locs cells slots) (hx : p.tables.exec = Jvm.exec) (hby : c.code = code) {x y : Int32} (hd : decode code pc = .ok (.iadd, 1)) (hpc : pc + 1 = pc') (h : Go p e below s mc ms Q m T pc' Ls (.int (x + y) :: st)) : Go p e below s mc ms Q m T pc Ls (.int y :: .int x :: st) := by
  subst hpc; exact h.of fun _ kk => XS.iadd (g := mkF m pc Ls (.int y :: .int x :: st)) X.here hx rfl (hb hby hd) rfl kk
theorem Go.isub (X : Stand p l e R s m args below meth c T locs cells slots) (hx : p.tables.exec = Jvm.exec) (hby : c.code = code) {x y : Int32} (hd : decode code pc = .ok (.isub, 1)) (hpc : pc + 1 = pc') (h : Go p e below s mc ms Q m T pc' Ls (.int (x - y) :: st)) : Go p e below s mc ms Q m T pc Ls (.int y :: .int x :: st) := by
  subst hpc; exact h.of fun _ kk => XS.isub (g := mkF m pc Ls (.int y :: .int x :: st)) X.here hx rfl (hb hby hd) rfl kk
theorem Go.imul (X : Stand p l e R s m args below meth c T locs cells slots) (hx : p.tables.exec = Jvm.exec) (hby : c.code = code) {x y : Int32} (hd : decode code pc = .ok (.imul, 1)) (hpc : pc + 1 = pc') (h : Go p e below s mc ms Q m T pc' Ls (.int (x * y) :: st)) : Go p e below s mc ms Q m T pc Ls (.int y :: .int x :: st) := by
  subst hpc; exact h.of fun _ kk => XS.imul (g := mkF m pc Ls (.int y :: .int x :: st)) X.here hx rfl (hb hby hd) rfl kk
theorem Go.iand (X : Stand p l e R s m args below meth c T locs cells slots) (hx : p.tables.exec = Jvm.exec) (hby : c.code = code) {x y : Int32} (hd : decode code pc = .ok (.iand, 1)) (hpc : pc + 1 = pc') (h : Go p e below s mc ms Q m T pc' Ls (.int (x &&& y) :: st)) : Go p e below s mc ms Q m T pc Ls (.int y :: .int x :: st) := by
  subst hpc; exact h.of fun _ kk => XS.iand (g := mkF m pc Ls (.int y :: .int x :: st)) X.here hx rfl (hb hby hd) rfl kk
theorem Go.ior (X : Stand p l e R s m args below meth c T locs cells slots) (hx : p.tables.exec = Jvm.exec) (hby : c.code = code) {x y : Int32} (hd : decode code pc = .ok (.ior, 1)) (hpc : pc + 1 = pc') (h : Go p e below s mc ms Q m T pc' Ls (.int (x ||| y) :: st)) : Go p e below s mc ms Q m T pc Ls (.int y :: .int x :: st) := by
  subst hpc; exact h.of fun _ kk => XT.ior (g := mkF m pc Ls (.int y :: .int x :: st)) X.here hx rfl (hb hby hd) rfl kk
theorem Go.ixor (X : Stand p l e R s m args below meth c T locs cells slots) (hx : p.tables.exec = Jvm.exec) (hby : c.code = code) {x y : Int32} (hd : decode code pc = .ok (.ixor, 1)) (hpc : pc + 1 = pc') (h : Go p e below s mc ms Q m T pc' Ls (.int (x ^^^ y) :: st)) : Go p e below s mc ms Q m T pc Ls (.int y :: .int x :: st) := by
  subst hpc; exact h.of fun _ kk => XT.ixor (g := mkF m pc Ls (.int y :: .int x :: st)) X.here hx rfl (hb hby hd) rfl kk
theorem Go.ishl (X : Stand p l e R s m args below meth c T locs cells slots) (hx : p.tables.exec = Jvm.exec) (hby : c.code = code) {x y : Int32} (hd : decode code pc = .ok (.ishl, 1)) (hpc : pc + 1 = pc') (h : Go p e below s mc ms Q m T pc' Ls (.int (shlI x y) :: st)) : Go p e below s mc ms Q m T pc Ls (.int y :: .int x :: st) := by
  subst hpc; exact h.of fun _ kk => XT.ishl (g := mkF m pc Ls (.int y :: .int x :: st)) X.here hx rfl (hb hby hd) rfl kk
theorem Go.ishr (X : Stand p l e R s m args below meth c T locs cells slots) (hx : p.tables.exec = Jvm.exec) (hby : c.code = code) {x y : Int32} (hd : decode code pc = .ok (.ishr, 1)) (hpc : pc + 1 = pc') (h : Go p e below s mc ms Q m T pc' Ls (.int (shrI x y) :: st)) : Go p e below s mc ms Q m T pc Ls (.int y :: .int x :: st) := by
  subst hpc; exact h.of fun _ kk => XT.ishr (g := mkF m pc Ls (.int y :: .int x :: st)) X.here hx rfl (hb hby hd) rfl kk
theorem Go.iushr (X : Stand p l e R s m args below meth c T locs cells slots) (hx : p.tables.exec = Jvm.exec) (hby : c.code = code) {x y : Int32} (hd : decode code pc = .ok (.iushr, 1)) (hpc : pc + 1 = pc') (h : Go p e below s mc ms Q m T pc' Ls (.int (XT.ushr x y) :: st)) : Go p e below s mc ms Q m T pc Ls (.int y :: .int x :: st) := by
  subst hpc; exact h.of fun _ kk => XT.iushr (g := mkF m pc Ls (.int y :: .int x :: st)) X.here hx rfl (hb hby hd) rfl kk
theorem Go.idiv (X : Stand p l e R s m args below meth c T locs cells slots) (hx : p.tables.exec = Jvm.exec) (hby : c.code = code) {x y : Int32} (hd : decode code pc = .ok (.idiv, 1)) (hpc : pc + 1 = pc') (hy : y ≠ 0) (h : Go p e below s mc ms Q m T pc' Ls (.int (x / y) :: st)) : Go p e below s mc ms Q m T pc Ls (.int y :: .int x :: st) := by
  subst hpc; exact h.of fun _ kk => XS.idiv (g := mkF m pc Ls (.int y :: .int x :: st)) X.here hx rfl (hb hby hd) rfl hy kk
theorem Go.irem (X : Stand p l e R s m args below meth c T locs cells slots) (hx : p.tables.exec = Jvm.exec) (hby : c.code = code) {x y : Int32} (hd : decode code pc = .ok (.irem, 1)) (hpc : pc + 1 = pc') (hy : y ≠ 0) (h : Go p e below s mc ms Q m T pc' Ls (.int (remI x y) :: st)) : Go p e below s mc ms Q m T pc Ls (.int y :: .int x :: st) := by
  subst hpc; exact h.of fun _ kk => XS.irem (g := mkF m pc Ls (.int y :: .int x :: st)) X.here hx rfl (hb hby hd) rfl hy kk
theorem Go.ladd (X : Stand p l e R s m args below meth c T locs cells slots) (hx : p.tables.exec = Jvm.exec) (hby : c.code = code) {x y : Int64} (hd : decode code pc = .ok (.ladd, 1)) (hpc : pc + 1 = pc') (h : Go p e below s mc ms Q m T pc' Ls (.long (x + y) :: st)) : Go p e below s mc ms Q m T pc Ls (.long y :: .long x :: st) := by
  subst hpc; exact h.of fun _ kk => XT.ladd (g := mkF m pc Ls (.long y :: .long x :: st)) X.here hx rfl (hb hby hd) rfl kk
theorem Go.lsub (X : Stand p l e R s m args below meth c T locs cells slots) (hx : p.tables.exec = Jvm.exec) (hby : c.code = code) {x y : Int64} (hd : decode code pc = .ok (.lsub, 1)) (hpc : pc + 1 = pc') (h : Go p e below s mc ms Q m T pc' Ls (.long (x - y) :: st)) : Go p e below s mc ms Q m T pc Ls (.long y :: .long x :: st) := by
  subst hpc; exact h.of fun _ kk => XT.lsub (g := mkF m pc Ls (.long y :: .long x :: st)) X.here hx rfl (hb hby hd) rfl kk
theorem Go.lmul (X : Stand p l e R s m args below meth c T locs cells slots) (hx : p.tables.exec = Jvm.exec) (hby : c.code = code) {x y : Int64} (hd : decode code pc = .ok (.lmul, 1)) (hpc : pc + 1 = pc') (h : Go p e below s mc ms Q m T pc' Ls (.long (x * y) :: st)) : Go p e below s mc ms Q m T pc Ls (.long y :: .long x :: st) := by
  subst hpc; exact h.of fun _ kk => XT.lmul (g := mkF m pc Ls (.long y :: .long x :: st)) X.here hx rfl (hb hby hd) rfl kk
theorem Go.land (X : Stand p l e R s m args below meth c T locs cells slots) (hx : p.tables.exec = Jvm.exec) (hby : c.code = code) {x y : Int64} (hd : decode code pc = .ok (.land, 1)) (hpc : pc + 1 = pc') (h : Go p e below s mc ms Q m T pc' Ls (.long (x &&& y) :: st)) : Go p e below s mc ms Q m T pc Ls (.long y :: .long x :: st) := by
  subst hpc; exact h.of fun _ kk => XT.land (g := mkF m pc Ls (.long y :: .long x :: st)) X.here hx rfl (hb hby hd) rfl kk
theorem Go.lor (X : Stand p l e R s m args below meth c T locs cells slots) (hx : p.tables.exec = Jvm.exec) (hby : c.code = code) {x y : Int64} (hd : decode code pc = .ok (.lor, 1)) (hpc : pc + 1 = pc') (h : Go p e below s mc ms Q m T pc' Ls (.long (x ||| y) :: st)) : Go p e below s mc ms Q m T pc Ls (.long y :: .long x :: st) := by
  subst hpc; exact h.of fun _ kk => XT.lor (g := mkF m pc Ls (.long y :: .long x :: st)) X.here hx rfl (hb hby hd) rfl kk
theorem Go.lxor (X : Stand p l e R s m args below meth c T locs cells slots) (hx : p.tables.exec = Jvm.exec) (hby : c.code = code) {x y : Int64} (hd : decode code pc = .ok (.lxor, 1)) (hpc : pc + 1 = pc') (h : Go p e below s mc ms Q m T pc' Ls (.long (x ^^^ y) :: st)) : Go p e below s mc ms Q m T pc Ls (.long y :: .long x :: st) := by
  subst hpc; exact h.of fun _ kk => XT.lxor (g := mkF m pc Ls (.long y :: .long x :: st)) X.here hx rfl (hb hby hd) rfl kk
theorem Go.ldiv (X : Stand p l e R s m args below meth c T locs cells slots) (hx : p.tables.exec = Jvm.exec) (hby : c.code = code) {x y : Int64} (hd : decode code pc = .ok (.ldiv, 1)) (hpc : pc + 1 = pc') (hy : y ≠ 0) (h : Go p e below s mc ms Q m T pc' Ls (.long (x / y) :: st)) : Go p e below s mc ms Q m T pc Ls (.long y :: .long x :: st) := by
  subst hpc; exact h.of fun _ kk => XT.ldiv (g := mkF m pc Ls (.long y :: .long x :: st)) X.here hx rfl (hb hby hd) rfl hy kk
theorem Go.lrem (X : Stand p l e R s m args below meth c T locs cells slots) (hx : p.tables.exec = Jvm.exec) (hby : c.code = code) {x y : Int64} (hd : decode code pc = .ok (.lrem, 1)) (hpc : pc + 1 = pc') (hy : y ≠ 0) (h : Go p e below s mc ms Q m T pc' Ls (.long (remJ x y) :: st)) : Go p e below s mc ms Q m T pc Ls (.long y :: .long x :: st) := by
  subst hpc; exact h.of fun _ kk => XT.lrem (g := mkF m pc Ls (.long y :: .long x :: st)) X.here hx rfl (hb hby hd) rfl hy kk
theorem Go.lushr (X : Stand p l e R s m args below meth c T locs cells slots) (hx : p.tables.exec = Jvm.exec) (hby : c.code = code) {x : Int64} {y : Int32} (hd : decode code pc = .ok (.lushr, 1)) (hpc : pc + 1 = pc') (h : Go p e below s mc ms Q m T pc' Ls (.long (XT.ushrL x y) :: st)) : Go p e below s mc ms Q m T pc Ls (.int y :: .long x :: st) := by
  subst hpc; exact h.of fun _ kk => XT.lushr (g := mkF m pc Ls (.int y :: .long x :: st)) X.here hx rfl (hb hby hd) rfl kk
theorem Go.lshl (X : Stand p l e R s m args below meth c T locs cells slots) (hx : p.tables.exec = Jvm.exec) (hby : c.code = code) {x : Int64} {y : Int32} {z : Int64} (hd : decode code pc = .ok (.lshl, 1)) (hpc : pc + 1 = pc') (hz : x <<< (y.toInt64 &&& 63) = z) (h : Go p e below s mc ms Q m T pc' Ls (.long z :: st)) : Go p e below s mc ms Q m T pc Ls (.int y :: .long x :: st) := by
  subst hpc hz; exact h.of fun _ kk => XT.lshl (g := mkF m pc Ls (.int y :: .long x :: st)) X.here hx rfl (hb hby hd) rfl kk
theorem Go.lshr (X : Stand p l e R s m args below meth c T locs cells slots) (hx : p.tables.exec = Jvm.exec) (hby : c.code = code) {x : Int64} {y : Int32} {z : Int64} (hd : decode code pc = .ok (.lshr, 1)) (hpc : pc + 1 = pc') (hz : x >>> (y.toInt64 &&& 63) = z) (h : Go p e below s mc ms Q m T pc' Ls (.long z :: st)) : Go p e below s mc ms Q m T pc Ls (.int y :: .long x :: st) := by
  subst hpc hz; exact h.of fun _ kk => XT.lshr (g := mkF m pc Ls (.int y :: .long x :: st)) X.here hx rfl (hb hby hd) rfl kk
theorem Go.lcmp (X : Stand p l e R s m args below meth c T locs cells slots) (hx : p.tables.exec = Jvm.exec) (hby : c.code = code) {x y : Int64} (hd : decode code pc = .ok (.lcmp, 1)) (hpc : pc + 1 = pc') (h : Go p e below s mc ms Q m T pc' Ls (.int (XT.cmpL x y) :: st)) : Go p e below s mc ms Q m T pc Ls (.long y :: .long x :: st) := by
  subst hpc; exact h.of fun _ kk => XT.lcmp (g := mkF m pc Ls (.long y :: .long x :: st)) X.here hx rfl (hb hby hd) rfl kk
theorem Go.ineg (X : Stand p l e R s m args below meth c T locs cells slots) (hx : p.tables.exec = Jvm.exec) (hby : c.code = code) {x : Int32} (hd : decode code pc = .ok (.ineg, 1)) (hpc : pc + 1 = pc') (h : Go p e below s mc ms Q m T pc' Ls (.int (-x) :: st)) : Go p e below s mc ms Q m T pc Ls (.int x :: st) := by
  subst hpc; exact h.of fun _ kk => XS.ineg (g := mkF m pc Ls (.int x :: st)) X.here hx rfl (hb hby hd) rfl kk
theorem Go.i2l (X : Stand p l e R s m args below meth c T locs cells slots) (hx : p.tables.exec = Jvm.exec) (hby : c.code = code) {x : Int32} (hd : decode code pc = .ok (.i2l, 1)) (hpc : pc + 1 = pc') (h : Go p e below s mc ms Q m T pc' Ls (.long (x.toInt64) :: st)) : Go p e below s mc ms Q m T pc Ls (.int x :: st) := by
  subst hpc; exact h.of fun _ kk => XT.i2l (g := mkF m pc Ls (.int x :: st)) X.here hx rfl (hb hby hd) rfl kk
theorem Go.l2i (X : Stand p l e R s m args below meth c T locs cells slots) (hx : p.tables.exec = Jvm.exec) (hby : c.code = code) {x : Int64} (hd : decode code pc = .ok (.l2i, 1)) (hpc : pc + 1 = pc') (h : Go p e below s mc ms Q m T pc' Ls (.int (x.toInt32) :: st)) : Go p e below s mc ms Q m T pc Ls (.long x :: st) := by
  subst hpc; exact h.of fun _ kk => XT.l2i (g := mkF m pc Ls (.long x :: st)) X.here hx rfl (hb hby hd) rfl kk
theorem Go.i2b (X : Stand p l e R s m args below meth c T locs cells slots) (hx : p.tables.exec = Jvm.exec) (hby : c.code = code) {x : Int32} (hd : decode code pc = .ok (.i2b, 1)) (hpc : pc + 1 = pc') (h : Go p e below s mc ms Q m T pc' Ls (.int (i2bF x) :: st)) : Go p e below s mc ms Q m T pc Ls (.int x :: st) := by
  subst hpc; exact h.of fun _ kk => XT.i2b (g := mkF m pc Ls (.int x :: st)) X.here hx rfl (hb hby hd) rfl kk
theorem Go.i2c (X : Stand p l e R s m args below meth c T locs cells slots) (hx : p.tables.exec = Jvm.exec) (hby : c.code = code) {x : Int32} (hd : decode code pc = .ok (.i2c, 1)) (hpc : pc + 1 = pc') (h : Go p e below s mc ms Q m T pc' Ls (.int (i2cF x) :: st)) : Go p e below s mc ms Q m T pc Ls (.int x :: st) := by
  subst hpc; exact h.of fun _ kk => XT.i2c (g := mkF m pc Ls (.int x :: st)) X.here hx rfl (hb hby hd) rfl kk
theorem Go.i2s (X : Stand p l e R s m args below meth c T locs cells slots) (hx : p.tables.exec = Jvm.exec) (hby : c.code = code) {x : Int32} (hd : decode code pc = .ok (.i2s, 1)) (hpc : pc + 1 = pc') (h : Go p e below s mc ms Q m T pc' Ls (.int (i2sF x) :: st)) : Go p e below s mc ms Q m T pc Ls (.int x :: st) := by
  subst hpc; exact h.of fun _ kk => XT.i2s (g := mkF m pc Ls (.int x :: st)) X.here hx rfl (hb hby hd) rfl kk
theorem Go.iinc (X : Stand p l e R s m args below meth c T locs cells slots) (hx : p.tables.exec = Jvm.exec) (hby : c.code = code) {k : Nat} {i : Int} {x v : Int32} (hd : decode code pc = .ok (.iinc k i, 3)) (hpc : pc + 3 = pc') (hv : Int32.ofInt i = v) (hl : Ls[k]? = some (.val (.int x))) (hl' : storeLocals Ls k (.int (x + v)) = some Ls') (h : Go p e below s mc ms Q m T pc' Ls' (st)) : Go p e below s mc ms Q m T pc Ls (st) := by
  subst hpc; exact h.of fun _ kk => XT.iincV (g := mkF m pc Ls (st)) X.here hx rfl v (hb hby hd) hv hl hl' kk
theorem Go.dup (X : Stand p l e R s m args below meth c T locs cells slots) (hx : p.tables.exec = Jvm.exec) (hby : c.code = code) {v : Value} (hd : decode code pc = .ok (.dup, 1)) (hpc : pc + 1 = pc') (hv : v.category = 1) (h : Go p e below s mc ms Q m T pc' Ls (v :: v :: st)) : Go p e below s mc ms Q m T pc Ls (v :: st) := by
  subst hpc; exact h.of fun _ kk => XS.dup (g := mkF m pc Ls (v :: st)) X.here hx rfl (hb hby hd) rfl hv kk
theorem Go.pop (X : Stand p l e R s m args below meth c T locs cells slots) (hx : p.tables.exec = Jvm.exec) (hby : c.code = code) {v : Value} (hd : decode code pc = .ok (.pop, 1)) (hpc : pc + 1 = pc') (hv : v.category = 1) (h : Go p e below s mc ms Q m T pc' Ls (st)) : Go p e below s mc ms Q m T pc Ls (v :: st) := by
  subst hpc; exact h.of fun _ kk => XT.pop (g := mkF m pc Ls (v :: st)) X.here hx rfl (hb hby hd) rfl hv kk
theorem Go.goto (X : Stand p l e R s m args below meth c T locs cells slots) (hx : p.tables.exec = Jvm.exec) (hby : c.code = code) {o : Int} (hd : decode code pc = .ok (.goto o, 3)) (ho : 0 ≤ (pc : Int) + o) (hp : ((pc : Int) + o).toNat = pc') (h : Go p e below s mc ms Q m T pc' Ls st) : Go p e below s mc ms Q m T pc Ls st :=
  h.of fun _ kk => XS.goto (g := mkF m pc Ls st) X.here hx rfl (pc0 := pc) rfl (hb hby hd) ho hp kk
theorem Go.icmp_eq (X : Stand p l e R s m args below meth c T locs cells slots) (hx : p.tables.exec = Jvm.exec) (hby : c.code = code) {pcN : Nat} {x y : Int32} {o : Int} (hd : decode code pc = .ok (.if_icmp .eq o, 3)) (ho : 0 ≤ (pc : Int) + o) (hp : ((pc : Int) + o).toNat = pc') (hn : pc + 3 = pcN) (yes : x = y → Go p e below s mc ms Q m T pc' Ls st) (no : ¬ x = y → Go p e below s mc ms Q m T pcN Ls st) : Go p e below s mc ms Q m T pc Ls (.int y :: .int x :: st) := by
  subst hn
  by_cases q : x = y
  · exact (yes q).of fun _ kk => XS.icmpYes (g := mkF m pc Ls (.int y :: .int x :: st)) X.here hx rfl (pc0 := pc) rfl (hb hby hd) rfl (XT.ii_eq_t q) ho hp kk
  · exact (no q).of fun _ kk => XS.icmpNo (g := mkF m pc Ls (.int y :: .int x :: st)) X.here hx rfl (hb hby hd) rfl (XT.ii_eq_f q) kk
theorem Go.icmp_ne (X : Stand p l e R s m args below meth c T locs cells slots) (hx : p.tables.exec = Jvm.exec) (hby : c.code = code) {pcN : Nat} {x y : Int32} {o : Int} (hd : decode code pc = .ok (.if_icmp .ne o, 3)) (ho : 0 ≤ (pc : Int) + o) (hp : ((pc : Int) + o).toNat = pc') (hn : pc + 3 = pcN) (yes : ¬ x = y → Go p e below s mc ms Q m T pc' Ls st) (no : x = y → Go p e below s mc ms Q m T pcN Ls st) : Go p e below s mc ms Q m T pc Ls (.int y :: .int x :: st) := by
  subst hn
  by_cases q : x = y
  · exact (no q).of fun _ kk => XS.icmpNo (g := mkF m pc Ls (.int y :: .int x :: st)) X.here hx rfl (hb hby hd) rfl (XT.ii_ne_f q) kk
  · exact (yes q).of fun _ kk => XS.icmpYes (g := mkF m pc Ls (.int y :: .int x :: st)) X.here hx rfl (pc0 := pc) rfl (hb hby hd) rfl (XT.ii_ne_t q) ho hp kk
theorem Go.icmp_lt (X : Stand p l e R s m args below meth c T locs cells slots) (hx : p.tables.exec = Jvm.exec) (hby : c.code = code) {pcN : Nat} {x y : Int32} {o : Int} (hd : decode code pc = .ok (.if_icmp .lt o, 3)) (ho : 0 ≤ (pc : Int) + o) (hp : ((pc : Int) + o).toNat = pc') (hn : pc + 3 = pcN) (yes : x < y → Go p e below s mc ms Q m T pc' Ls st) (no : ¬ x < y → Go p e below s mc ms Q m T pcN Ls st) : Go p e below s mc ms Q m T pc Ls (.int y :: .int x :: st) := by
  subst hn
  by_cases q : x < y
  · exact (yes q).of fun _ kk => XS.icmpYes (g := mkF m pc Ls (.int y :: .int x :: st)) X.here hx rfl (pc0 := pc) rfl (hb hby hd) rfl (XT.ii_lt_t q) ho hp kk
  · exact (no q).of fun _ kk => XS.icmpNo (g := mkF m pc Ls (.int y :: .int x :: st)) X.here hx rfl (hb hby hd) rfl (XT.ii_lt_f q) kk
theorem Go.icmp_ge (X : Stand p l e R s m args below meth c T locs cells slots) (hx : p.tables.exec = Jvm.exec) (hby : c.code = code) {pcN : Nat} {x y : Int32} {o : Int} (hd : decode code pc = .ok (.if_icmp .ge o, 3)) (ho : 0 ≤ (pc : Int) + o) (hp : ((pc : Int) + o).toNat = pc') (hn : pc + 3 = pcN) (yes : ¬ x < y → Go p e below s mc ms Q m T pc' Ls st) (no : x < y → Go p e below s mc ms Q m T pcN Ls st) : Go p e below s mc ms Q m T pc Ls (.int y :: .int x :: st) := by
  subst hn
  by_cases q : x < y
  · exact (no q).of fun _ kk => XS.icmpNo (g := mkF m pc Ls (.int y :: .int x :: st)) X.here hx rfl (hb hby hd) rfl (XT.ii_ge_f q) kk
  · exact (yes q).of fun _ kk => XS.icmpYes (g := mkF m pc Ls (.int y :: .int x :: st)) X.here hx rfl (pc0 := pc) rfl (hb hby hd) rfl (XT.ii_ge_t q) ho hp kk
theorem Go.icmp_gt (X : Stand p l e R s m args below meth c T locs cells slots) (hx : p.tables.exec = Jvm.exec) (hby : c.code = code) {pcN : Nat} {x y : Int32} {o : Int} (hd : decode code pc = .ok (.if_icmp .gt o, 3)) (ho : 0 ≤ (pc : Int) + o) (hp : ((pc : Int) + o).toNat = pc') (hn : pc + 3 = pcN) (yes : y < x → Go p e below s mc ms Q m T pc' Ls st) (no : ¬ y < x → Go p e below s mc ms Q m T pcN Ls st) : Go p e below s mc ms Q m T pc Ls (.int y :: .int x :: st) := by
  subst hn
  by_cases q : y < x
  · exact (yes q).of fun _ kk => XS.icmpYes (g := mkF m pc Ls (.int y :: .int x :: st)) X.here hx rfl (pc0 := pc) rfl (hb hby hd) rfl (XT.ii_gt_t q) ho hp kk
  · exact (no q).of fun _ kk => XS.icmpNo (g := mkF m pc Ls (.int y :: .int x :: st)) X.here hx rfl (hb hby hd) rfl (XT.ii_gt_f q) kk
theorem Go.icmp_le (X : Stand p l e R s m args below meth c T locs cells slots) (hx : p.tables.exec = Jvm.exec) (hby : c.code = code) {pcN : Nat} {x y : Int32} {o : Int} (hd : decode code pc = .ok (.if_icmp .le o, 3)) (ho : 0 ≤ (pc : Int) + o) (hp : ((pc : Int) + o).toNat = pc') (hn : pc + 3 = pcN) (yes : ¬ y < x → Go p e below s mc ms Q m T pc' Ls st) (no : y < x → Go p e below s mc ms Q m T pcN Ls st) : Go p e below s mc ms Q m T pc Ls (.int y :: .int x :: st) := by
  subst hn
  by_cases q : y < x
  · exact (no q).of fun _ kk => XS.icmpNo (g := mkF m pc Ls (.int y :: .int x :: st)) X.here hx rfl (hb hby hd) rfl (XT.ii_le_f q) kk
  · exact (yes q).of fun _ kk => XS.icmpYes (g := mkF m pc Ls (.int y :: .int x :: st)) X.here hx rfl (pc0 := pc) rfl (hb hby hd) rfl (XT.ii_le_t q) ho hp kk
theorem Go.if_eq (X : Stand p l e R s m args below meth c T locs cells slots) (hx : p.tables.exec = Jvm.exec) (hby : c.code = code) {pcN : Nat} {x : Int32} {o : Int} (hd : decode code pc = .ok (.ifCond .eq o, 3)) (ho : 0 ≤ (pc : Int) + o) (hp : ((pc : Int) + o).toNat = pc') (hn : pc + 3 = pcN) (yes : x = 0 → Go p e below s mc ms Q m T pc' Ls st) (no : ¬ x = 0 → Go p e below s mc ms Q m T pcN Ls st) : Go p e below s mc ms Q m T pc Ls (.int x :: st) := by
  subst hn
  by_cases q : x = 0
  · exact (yes q).of fun _ kk => XS.ifYes (g := mkF m pc Ls (.int x :: st)) X.here hx rfl (pc0 := pc) rfl (hb hby hd) rfl (XT.i0_eq_t q) ho hp kk
  · exact (no q).of fun _ kk => XS.ifNo (g := mkF m pc Ls (.int x :: st)) X.here hx rfl (hb hby hd) rfl (XT.i0_eq_f q) kk
theorem Go.if_ne (X : Stand p l e R s m args below meth c T locs cells slots) (hx : p.tables.exec = Jvm.exec) (hby : c.code = code) {pcN : Nat} {x : Int32} {o : Int} (hd : decode code pc = .ok (.ifCond .ne o, 3)) (ho : 0 ≤ (pc : Int) + o) (hp : ((pc : Int) + o).toNat = pc') (hn : pc + 3 = pcN) (yes : ¬ x = 0 → Go p e below s mc ms Q m T pc' Ls st) (no : x = 0 → Go p e below s mc ms Q m T pcN Ls st) : Go p e below s mc ms Q m T pc Ls (.int x :: st) := by
  subst hn
  by_cases q : x = 0
  · exact (no q).of fun _ kk => XS.ifNo (g := mkF m pc Ls (.int x :: st)) X.here hx rfl (hb hby hd) rfl (XT.i0_ne_f q) kk
  · exact (yes q).of fun _ kk => XS.ifYes (g := mkF m pc Ls (.int x :: st)) X.here hx rfl (pc0 := pc) rfl (hb hby hd) rfl (XT.i0_ne_t q) ho hp kk
theorem Go.if_lt (X : Stand p l e R s m args below meth c T locs cells slots) (hx : p.tables.exec = Jvm.exec) (hby : c.code = code) {pcN : Nat} {x : Int32} {o : Int} (hd : decode code pc = .ok (.ifCond .lt o, 3)) (ho : 0 ≤ (pc : Int) + o) (hp : ((pc : Int) + o).toNat = pc') (hn : pc + 3 = pcN) (yes : x < 0 → Go p e below s mc ms Q m T pc' Ls st) (no : ¬ x < 0 → Go p e below s mc ms Q m T pcN Ls st) : Go p e below s mc ms Q m T pc Ls (.int x :: st) := by
  subst hn
  by_cases q : x < 0
  · exact (yes q).of fun _ kk => XS.ifYes (g := mkF m pc Ls (.int x :: st)) X.here hx rfl (pc0 := pc) rfl (hb hby hd) rfl (XT.i0_lt_t q) ho hp kk
  · exact (no q).of fun _ kk => XS.ifNo (g := mkF m pc Ls (.int x :: st)) X.here hx rfl (hb hby hd) rfl (XT.i0_lt_f q) kk
theorem Go.if_ge (X : Stand p l e R s m args below meth c T locs cells slots) (hx : p.tables.exec = Jvm.exec) (hby : c.code = code) {pcN : Nat} {x : Int32} {o : Int} (hd : decode code pc = .ok (.ifCond .ge o, 3)) (ho : 0 ≤ (pc : Int) + o) (hp : ((pc : Int) + o).toNat = pc') (hn : pc + 3 = pcN) (yes : ¬ x < 0 → Go p e below s mc ms Q m T pc' Ls st) (no : x < 0 → Go p e below s mc ms Q m T pcN Ls st) : Go p e below s mc ms Q m T pc Ls (.int x :: st) := by
  subst hn
  by_cases q : x < 0
  · exact (no q).of fun _ kk => XS.ifNo (g := mkF m pc Ls (.int x :: st)) X.here hx rfl (hb hby hd) rfl (XT.i0_ge_f q) kk
  · exact (yes q).of fun _ kk => XS.ifYes (g := mkF m pc Ls (.int x :: st)) X.here hx rfl (pc0 := pc) rfl (hb hby hd) rfl (XT.i0_ge_t q) ho hp kk
theorem Go.if_gt (X : Stand p l e R s m args below meth c T locs cells slots) (hx : p.tables.exec = Jvm.exec) (hby : c.code = code) {pcN : Nat} {x : Int32} {o : Int} (hd : decode code pc = .ok (.ifCond .gt o, 3)) (ho : 0 ≤ (pc : Int) + o) (hp : ((pc : Int) + o).toNat = pc') (hn : pc + 3 = pcN) (yes : 0 < x → Go p e below s mc ms Q m T pc' Ls st) (no : ¬ 0 < x → Go p e below s mc ms Q m T pcN Ls st) : Go p e below s mc ms Q m T pc Ls (.int x :: st) := by
  subst hn
  by_cases q : 0 < x
  · exact (yes q).of fun _ kk => XS.ifYes (g := mkF m pc Ls (.int x :: st)) X.here hx rfl (pc0 := pc) rfl (hb hby hd) rfl (XT.i0_gt_t q) ho hp kk
  · exact (no q).of fun _ kk => XS.ifNo (g := mkF m pc Ls (.int x :: st)) X.here hx rfl (hb hby hd) rfl (XT.i0_gt_f q) kk
theorem Go.if_le (X : Stand p l e R s m args below meth c T locs cells slots) (hx : p.tables.exec = Jvm.exec) (hby : c.code = code) {pcN : Nat} {x : Int32} {o : Int} (hd : decode code pc = .ok (.ifCond .le o, 3)) (ho : 0 ≤ (pc : Int) + o) (hp : ((pc : Int) + o).toNat = pc') (hn : pc + 3 = pcN) (yes : ¬ 0 < x → Go p e below s mc ms Q m T pc' Ls st) (no : 0 < x → Go p e below s mc ms Q m T pcN Ls st) : Go p e below s mc ms Q m T pc Ls (.int x :: st) := by
  subst hn
  by_cases q : 0 < x
  · exact (no q).of fun _ kk => XS.ifNo (g := mkF m pc Ls (.int x :: st)) X.here hx rfl (hb hby hd) rfl (XT.i0_le_f q) kk
  · exact (yes q).of fun _ kk => XS.ifYes (g := mkF m pc Ls (.int x :: st)) X.here hx rfl (pc0 := pc) rfl (hb hby hd) rfl (XT.i0_le_t q) ho hp kk
theorem Go.ifL_eq (X : Stand p l e R s m args below meth c T locs cells slots) (hx : p.tables.exec = Jvm.exec) (hby : c.code = code) {pcN : Nat} {x y : Int64} {o : Int} (hd : decode code pc = .ok (.ifCond .eq o, 3)) (ho : 0 ≤ (pc : Int) + o) (hp : ((pc : Int) + o).toNat = pc') (hn : pc + 3 = pcN) (yes : x = y → Go p e below s mc ms Q m T pc' Ls st) (no : ¬ x = y → Go p e below s mc ms Q m T pcN Ls st) : Go p e below s mc ms Q m T pc Ls (.int (XT.cmpL x y) :: st) := by
  subst hn
  by_cases q : x = y
  · exact (yes q).of fun _ kk => XS.ifYes (g := mkF m pc Ls (.int (XT.cmpL x y) :: st)) X.here hx rfl (pc0 := pc) rfl (hb hby hd) rfl (XT.ll_eq_t q) ho hp kk
  · exact (no q).of fun _ kk => XS.ifNo (g := mkF m pc Ls (.int (XT.cmpL x y) :: st)) X.here hx rfl (hb hby hd) rfl (XT.ll_eq_f q) kk
theorem Go.ifL_ne (X : Stand p l e R s m args below meth c T locs cells slots) (hx : p.tables.exec = Jvm.exec) (hby : c.code = code) {pcN : Nat} {x y : Int64} {o : Int} (hd : decode code pc = .ok (.ifCond .ne o, 3)) (ho : 0 ≤ (pc : Int) + o) (hp : ((pc : Int) + o).toNat = pc') (hn : pc + 3 = pcN) (yes : ¬ x = y → Go p e below s mc ms Q m T pc' Ls st) (no : x = y → Go p e below s mc ms Q m T pcN Ls st) : Go p e below s mc ms Q m T pc Ls (.int (XT.cmpL x y) :: st) := by
  subst hn
  by_cases q : x = y
  · exact (no q).of fun _ kk => XS.ifNo (g := mkF m pc Ls (.int (XT.cmpL x y) :: st)) X.here hx rfl (hb hby hd) rfl (XT.ll_ne_f q) kk
  · exact (yes q).of fun _ kk => XS.ifYes (g := mkF m pc Ls (.int (XT.cmpL x y) :: st)) X.here hx rfl (pc0 := pc) rfl (hb hby hd) rfl (XT.ll_ne_t q) ho hp kk
theorem Go.ifL_lt (X : Stand p l e R s m args below meth c T locs cells slots) (hx : p.tables.exec = Jvm.exec) (hby : c.code = code) {pcN : Nat} {x y : Int64} {o : Int} (hd : decode code pc = .ok (.ifCond .lt o, 3)) (ho : 0 ≤ (pc : Int) + o) (hp : ((pc : Int) + o).toNat = pc') (hn : pc + 3 = pcN) (yes : x < y → Go p e below s mc ms Q m T pc' Ls st) (no : ¬ x < y → Go p e below s mc ms Q m T pcN Ls st) : Go p e below s mc ms Q m T pc Ls (.int (XT.cmpL x y) :: st) := by
  subst hn
  by_cases q : x < y
  · exact (yes q).of fun _ kk => XS.ifYes (g := mkF m pc Ls (.int (XT.cmpL x y) :: st)) X.here hx rfl (pc0 := pc) rfl (hb hby hd) rfl (XT.ll_lt_t q) ho hp kk
  · exact (no q).of fun _ kk => XS.ifNo (g := mkF m pc Ls (.int (XT.cmpL x y) :: st)) X.here hx rfl (hb hby hd) rfl (XT.ll_lt_f q) kk
theorem Go.ifL_ge (X : Stand p l e R s m args below meth c T locs cells slots) (hx : p.tables.exec = Jvm.exec) (hby : c.code = code) {pcN : Nat} {x y : Int64} {o : Int} (hd : decode code pc = .ok (.ifCond .ge o, 3)) (ho : 0 ≤ (pc : Int) + o) (hp : ((pc : Int) + o).toNat = pc') (hn : pc + 3 = pcN) (yes : ¬ x < y → Go p e below s mc ms Q m T pc' Ls st) (no : x < y → Go p e below s mc ms Q m T pcN Ls st) : Go p e below s mc ms Q m T pc Ls (.int (XT.cmpL x y) :: st) := by
  subst hn
  by_cases q : x < y
  · exact (no q).of fun _ kk => XS.ifNo (g := mkF m pc Ls (.int (XT.cmpL x y) :: st)) X.here hx rfl (hb hby hd) rfl (XT.ll_ge_f q) kk
  · exact (yes q).of fun _ kk => XS.ifYes (g := mkF m pc Ls (.int (XT.cmpL x y) :: st)) X.here hx rfl (pc0 := pc) rfl (hb hby hd) rfl (XT.ll_ge_t q) ho hp kk
theorem Go.ifL_gt (X : Stand p l e R s m args below meth c T locs cells slots) (hx : p.tables.exec = Jvm.exec) (hby : c.code = code) {pcN : Nat} {x y : Int64} {o : Int} (hd : decode code pc = .ok (.ifCond .gt o, 3)) (ho : 0 ≤ (pc : Int) + o) (hp : ((pc : Int) + o).toNat = pc') (hn : pc + 3 = pcN) (yes : y < x → Go p e below s mc ms Q m T pc' Ls st) (no : ¬ y < x → Go p e below s mc ms Q m T pcN Ls st) : Go p e below s mc ms Q m T pc Ls (.int (XT.cmpL x y) :: st) := by
  subst hn
  by_cases q : y < x
  · exact (yes q).of fun _ kk => XS.ifYes (g := mkF m pc Ls (.int (XT.cmpL x y) :: st)) X.here hx rfl (pc0 := pc) rfl (hb hby hd) rfl (XT.ll_gt_t q) ho hp kk
  · exact (no q).of fun _ kk => XS.ifNo (g := mkF m pc Ls (.int (XT.cmpL x y) :: st)) X.here hx rfl (hb hby hd) rfl (XT.ll_gt_f q) kk
theorem Go.ifL_le (X : Stand p l e R s m args below meth c T locs cells slots) (hx : p.tables.exec = Jvm.exec) (hby : c.code = code) {pcN : Nat} {x y : Int64} {o : Int} (hd : decode code pc = .ok (.ifCond .le o, 3)) (ho : 0 ≤ (pc : Int) + o) (hp : ((pc : Int) + o).toNat = pc') (hn : pc + 3 = pcN) (yes : ¬ y < x → Go p e below s mc ms Q m T pc' Ls st) (no : y < x → Go p e below s mc ms Q m T pcN Ls st) : Go p e below s mc ms Q m T pc Ls (.int (XT.cmpL x y) :: st) := by
  subst hn
  by_cases q : y < x
  · exact (no q).of fun _ kk => XS.ifNo (g := mkF m pc Ls (.int (XT.cmpL x y) :: st)) X.here hx rfl (hb hby hd) rfl (XT.ll_le_f q) kk
  · exact (yes q).of fun _ kk => XS.ifYes (g := mkF m pc Ls (.int (XT.cmpL x y) :: st)) X.here hx rfl (pc0 := pc) rfl (hb hby hd) rfl (XT.ll_le_t q) ho hp kk
theorem Go.iretI (X : Stand p l e R s m args below meth c T locs cells slots) (hx : p.tables.exec = Jvm.exec) (hby : c.code = code) (hlk : meth.locks = false) (hret : meth.sig.returnType = some .int) {w : Int32} (hd : decode code pc = .ok (.ireturn, 1)) (hc : cells ≤ mc) (hs : slots ≤ ms) (hq : Q (some (.int w)) T.heap locs) : Go p e below s mc ms Q m T pc Ls [.int w] := by
  obtain ⟨fs, hr, hrun, hended, hW, hsame⟩ := X.leave (v := some (.int w)) (fun h => by rw [hret] at h; cases h) hlk
  exact ⟨_, _, X.ireturnOut hx hret rfl (Or.inl rfl) (hb hby hd) hr, hrun, hended, _, _, rfl, hq, ⟨_, rfl⟩, hW, hsame.mono hc hs⟩
theorem Go.iretN (X : Stand p l e R s m args below meth c T locs cells slots) (hx : p.tables.exec = Jvm.exec) (hby : c.code = code) (hlk : meth.locks = false) {t : FieldType} (hret : meth.sig.returnType = some t) (ht : t = .boolean ∨ t = .byte ∨ t = .char ∨ t = .short) {w w' : Int32} (hw : nar t w = w') (hd : decode code pc = .ok (.ireturn, 1)) (hc : cells ≤ mc) (hs : slots ≤ ms) (hq : Q (some (.int w')) T.heap locs) : Go p e below s mc ms Q m T pc Ls [.int w] := by
  subst hw
  obtain ⟨fs, hr, hrun, hended, hW, hsame⟩ := X.leave (v := some (.int (nar t w))) (fun h => by rw [hret] at h; cases h) hlk
  exact ⟨_, _, retN X hx (t := t) hret ht (hb hby hd) hr, hrun, hended, _, _, rfl, hq, ⟨_, rfl⟩, hW, hsame.mono hc hs⟩
theorem Go.lret (X : Stand p l e R s m args below meth c T locs cells slots) (hx : p.tables.exec = Jvm.exec) (hby : c.code = code) (hlk : meth.locks = false) (hret : meth.sig.returnType = some .long) {w : Int64} (hd : decode code pc = .ok (.lreturn, 1)) (hc : cells ≤ mc) (hs : slots ≤ ms) (hq : Q (some (.long w)) T.heap locs) : Go p e below s mc ms Q m T pc Ls [.long w] := by
  obtain ⟨fs, hr, hrun, hended, hW, hsame⟩ := X.leave (v := some (.long w)) (fun h => by rw [hret] at h; cases h) hlk
  exact ⟨_, _, X.lreturnOut hx hret (hb hby hd) hr, hrun, hended, _, _, rfl, hq, ⟨_, rfl⟩, hW, hsame.mono hc hs⟩
theorem Go.aret (X : Stand p l e R s m args below meth c T locs cells slots) (hx : p.tables.exec = Jvm.exec) (hby : c.code = code) (hlk : meth.locks = false) {t : FieldType} (hret : meth.sig.returnType = some t) (ht : t.isReference = true) {w : Value} (hw : w.isRef = true) (hd : decode code pc = .ok (.areturn, 1)) (hc : cells ≤ mc) (hs : slots ≤ ms) (hq : Q (some w) T.heap locs) : Go p e below s mc ms Q m T pc Ls [w] := by
  obtain ⟨fs, hr, hrun, hended, hW, hsame⟩ := X.leave (v := some w) (fun h => by rw [hret] at h; cases h) hlk
  exact ⟨_, _, X.areturnOut hx hw hret ht (hb hby hd) hr, hrun, hended, _, _, rfl, hq, ⟨_, rfl⟩, hW, hsame.mono hc hs⟩
theorem Go.vret (X : Stand p l e R s m args below meth c T locs cells slots) (hx : p.tables.exec = Jvm.exec) (hby : c.code = code) (hlk : meth.locks = false) (hret : meth.sig.returnType = none) (hd : decode code pc = .ok (.return_, 1)) (hc : cells ≤ mc) (hs : slots ≤ ms) (hq : Q none T.heap locs) : Go p e below s mc ms Q m T pc Ls [] := by
  obtain ⟨fs, hr, hrun, hended, hW, hsame⟩ := X.leave (v := none) (fun _ => rfl) hlk
  exact ⟨_, _, X.returnOut hx hret (hb hby hd) hr, hrun, hended, _, _, rfl, hq, ⟨_, rfl⟩, hW, hsame.mono hc hs⟩
/-- what a body that keeps the heap leaves -/
def PQ (h0 : Heap) (r : Option Value) (v : Option Value) (h : Heap) (L : List Loc) : Prop := v = r ∧ L = [] ∧ h = h0
theorem Go.callS (X : Stand p l e R s m args below meth c T locs cells slots) (hx : p.tables.exec = Jvm.exec) (hby : c.code = code) {Z : State} {a0 : Array Value} {h : Heap} (hZ : Z.Warmed39 s.vm) (hml : Ls.size = c.maxLocals) {own : String} {k : Nat} {y : MethodName} {bytes : ByteArray} {maxL : Nat} {ret : Option FieldType} {rm : Room} {W : Nat} {as' : Array Value} {QY : Option Value → Heap → List Loc → Prop}
    (hown : s.vm.findClass own = some m.cls) (w1 : (Cond.methodLink own k y).before a0 Z = true) (w2 : (Cond.static y).before a0 Z = true) (w3 : (Cond.initialized y.cls).before a0 Z = true) (w4 : (Cond.code y bytes maxL ret).before a0 Z = true) (hy : y.cls ≠ "java/lang/invoke/MethodHandle" ∧ y.cls ≠ "java/lang/invoke/VarHandle")
    (hM : MetFree l y (head1 [Cond.code y bytes maxL ret] rm) (fun a U => a = as' ∧ Z.Warmed39 U.vm ∧ U.heap = h) (fun _ _ _ _ _ => True) (fun _ U o U' => ∃ v L, o = .returned v ∧ QY v U'.heap L ∧ FrameEnd U o U' L rm.cells rm.slots))
    (hf : rm.frames + 1 ≤ R.frames) (hl : W + (maxL + 11) + rm.locals ≤ R.locals) (eT : T.heap = h) {argsL rest : List Value} {sig : MethodDescriptor} (hsig : parseMethodDescriptor y.desc = some sig) (hlen : argsL.length = sig.parameters.length) (has : argsL.toArray = as') (hst : st = argsL.reverse ++ rest) (hW : (rest.map fun v => v.category).sum ≤ W)
    (hc : cells + rm.cells ≤ R.cells) (hsl : slots + rm.slots ≤ R.slots) (hd : decode code pc = .ok (.invokestatic k, 3)) (hpc : pc + 3 = pc')
    (K : ∀ v T' L, Stand p l e R s m args below meth c T' (locs ++ L) (cells + rm.cells) (slots + rm.slots) → QY v T'.heap L → Go p e below s mc ms Q m T' pc' Ls (v.toList ++ rest)) : Go p e below s mc ms Q m T pc Ls st := by
  subst hpc hst has
  obtain ⟨v, vm₁, B, -, X', ⟨L, hQ, l1, l2, l3⟩, st⟩ := Jvm.LawKit.callS X hx hown (mvT hZ w1) (mvT hZ w2) (mvT hZ w3) (mvT hZ w4) hy (backOf (W := W) hM hZ w4 w3 hf hl) (g := mkF m pc Ls (argsL.reverse ++ rest)) rfl hml (argsL := argsL) (rest := rest) (lenOf hsig hlen) rfl (by show 2 * 0 + _ ≤ _; omega) (hb hby hd) (fun _ _ => ⟨rfl, eT, hc, hsl⟩)
  rw [l1, l2, l3] at X'
  exact (K v B.U L X' hQ).of st
theorem Go.callSP (X : Stand p l e R s m args below meth c T locs cells slots) (hx : p.tables.exec = Jvm.exec) (hby : c.code = code) {Z : State} {a0 : Array Value} {h : Heap} (hZ : Z.Warmed39 s.vm) (hml : Ls.size = c.maxLocals) {own : String} {k : Nat} {y : MethodName} {bytes : ByteArray} {maxL : Nat} {ret : Option FieldType} {rm : Room} {W : Nat} {as' : Array Value} {r : Value}
    (hown : s.vm.findClass own = some m.cls) (w1 : (Cond.methodLink own k y).before a0 Z = true) (w2 : (Cond.static y).before a0 Z = true) (w3 : (Cond.initialized y.cls).before a0 Z = true) (w4 : (Cond.code y bytes maxL ret).before a0 Z = true) (hy : y.cls ≠ "java/lang/invoke/MethodHandle" ∧ y.cls ≠ "java/lang/invoke/VarHandle")
    (hM : MetFree l y (head1 [Cond.code y bytes maxL ret] rm) (fun a U => a = as' ∧ Z.Warmed39 U.vm ∧ U.heap = h) (fun _ _ _ _ _ => True) (fun _ U o U' => ∃ v L, o = .returned v ∧ PQ h (some r) v U'.heap L ∧ FrameEnd U o U' L rm.cells rm.slots))
    (hf : rm.frames + 1 ≤ R.frames) (hl : W + (maxL + 11) + rm.locals ≤ R.locals) (eT : T.heap = h) {argsL rest : List Value} {sig : MethodDescriptor} (hsig : parseMethodDescriptor y.desc = some sig) (hlen : argsL.length = sig.parameters.length) (has : argsL.toArray = as') (hst : st = argsL.reverse ++ rest) (hW : (rest.map fun v => v.category).sum ≤ W)
    (r1 : rm.cells = 0) (r2 : rm.slots = 0) (hc : cells ≤ R.cells) (hsl : slots ≤ R.slots) (hd : decode code pc = .ok (.invokestatic k, 3)) (hpc : pc + 3 = pc')
    (K : ∀ T', Stand p l e R s m args below meth c T' locs cells slots → T'.heap = h → Go p e below s mc ms Q m T' pc' Ls (r :: rest)) : Go p e below s mc ms Q m T pc Ls st := by
  refine Go.callS X hx hby hZ hml hown w1 w2 w3 w4 hy hM hf hl eT hsig hlen has hst hW (by rw [r1]; exact hc) (by rw [r2]; exact hsl) hd hpc (fun v T' L X' hQ => ?_)
  obtain ⟨rfl, rfl, e1⟩ := hQ
  rw [List.append_nil, r1, r2] at X'
  exact K T' X' e1
end Law

-- body 1
def f1_33 : Nat → Int64 → Int32 → Int64 → Int32 → Option (Int32)
  | 0, _, _, _, _ => none
  | n + 1, x2, x5, x6, x8 => if x8 < x5 then f1_33 n x2 x5 (x6 * (10 : Int64)) (x8 + (1 : Int32)) else if x6 = 0 then none else if ((999999999 : Int64) / x6) < x2 then some (-1 : Int32) else some (((x2 * x6)).toInt32)
def f1_25 (x2 : Int64) (t0 : Int32) : Option (Int32) := f1_33 64 x2 t0 (1 : Int64) (0 : Int32)
def f1_0 (x0 : Int64) : Option (Int32) := if (((x0 &&& (7 : Int64))).toInt32) = 0 then f1_25 (XT.ushrL x0 (3 : Int32)) (0 : Int32) else f1_25 (XT.ushrL x0 (3 : Int32)) ((((x0 &&& (7 : Int64))).toInt32) + (1 : Int32))
theorem d1_0 : decode prog_53_method_7_code 0 = .ok (.lload_n 0, 1) := by decide +kernel
theorem d1_1 : decode prog_53_method_7_code 1 = .ok (.iconst 3, 1) := by decide +kernel
theorem d1_2 : decode prog_53_method_7_code 2 = .ok (.lushr, 1) := by decide +kernel
theorem d1_3 : decode prog_53_method_7_code 3 = .ok (.lstore_n 2, 1) := by decide +kernel
theorem d1_4 : decode prog_53_method_7_code 4 = .ok (.lload_n 0, 1) := by decide +kernel
theorem d1_5 : decode prog_53_method_7_code 5 = .ok (.ldc2_w 26, 3) := by decide +kernel
theorem d1_8 : decode prog_53_method_7_code 8 = .ok (.land, 1) := by decide +kernel
theorem d1_9 : decode prog_53_method_7_code 9 = .ok (.l2i, 1) := by decide +kernel
theorem d1_10 : decode prog_53_method_7_code 10 = .ok (.istore 4, 2) := by decide +kernel
theorem d1_12 : decode prog_53_method_7_code 12 = .ok (.iload 4, 2) := by decide +kernel
theorem d1_14 : decode prog_53_method_7_code 14 = .ok (.ifCond .ne 7, 3) := by decide +kernel
theorem d1_17 : decode prog_53_method_7_code 17 = .ok (.iconst 0, 1) := by decide +kernel
theorem d1_18 : decode prog_53_method_7_code 18 = .ok (.goto 7, 3) := by decide +kernel
theorem d1_21 : decode prog_53_method_7_code 21 = .ok (.iload 4, 2) := by decide +kernel
theorem d1_23 : decode prog_53_method_7_code 23 = .ok (.iconst 1, 1) := by decide +kernel
theorem d1_24 : decode prog_53_method_7_code 24 = .ok (.iadd, 1) := by decide +kernel
theorem d1_25 : decode prog_53_method_7_code 25 = .ok (.istore 5, 2) := by decide +kernel
theorem d1_27 : decode prog_53_method_7_code 27 = .ok (.lconst 1, 1) := by decide +kernel
theorem d1_28 : decode prog_53_method_7_code 28 = .ok (.lstore 6, 2) := by decide +kernel
theorem d1_30 : decode prog_53_method_7_code 30 = .ok (.iconst 0, 1) := by decide +kernel
theorem d1_31 : decode prog_53_method_7_code 31 = .ok (.istore 8, 2) := by decide +kernel
theorem d1_33 : decode prog_53_method_7_code 33 = .ok (.iload 8, 2) := by decide +kernel
theorem d1_35 : decode prog_53_method_7_code 35 = .ok (.iload 5, 2) := by decide +kernel
theorem d1_37 : decode prog_53_method_7_code 37 = .ok (.if_icmp .ge 17, 3) := by decide +kernel
theorem d1_40 : decode prog_53_method_7_code 40 = .ok (.lload 6, 2) := by decide +kernel
theorem d1_42 : decode prog_53_method_7_code 42 = .ok (.ldc2_w 28, 3) := by decide +kernel
theorem d1_45 : decode prog_53_method_7_code 45 = .ok (.lmul, 1) := by decide +kernel
theorem d1_46 : decode prog_53_method_7_code 46 = .ok (.lstore 6, 2) := by decide +kernel
theorem d1_48 : decode prog_53_method_7_code 48 = .ok (.iinc 8 1, 3) := by decide +kernel
theorem d1_51 : decode prog_53_method_7_code 51 = .ok (.goto (-18), 3) := by decide +kernel
theorem d1_54 : decode prog_53_method_7_code 54 = .ok (.lload_n 2, 1) := by decide +kernel
theorem d1_55 : decode prog_53_method_7_code 55 = .ok (.ldc2_w 30, 3) := by decide +kernel
theorem d1_58 : decode prog_53_method_7_code 58 = .ok (.lload 6, 2) := by decide +kernel
theorem d1_60 : decode prog_53_method_7_code 60 = .ok (.ldiv, 1) := by decide +kernel
theorem d1_61 : decode prog_53_method_7_code 61 = .ok (.lcmp, 1) := by decide +kernel
theorem d1_62 : decode prog_53_method_7_code 62 = .ok (.ifCond .le 7, 3) := by decide +kernel
theorem d1_65 : decode prog_53_method_7_code 65 = .ok (.iconst (-1), 1) := by decide +kernel
theorem d1_66 : decode prog_53_method_7_code 66 = .ok (.goto 8, 3) := by decide +kernel
theorem d1_69 : decode prog_53_method_7_code 69 = .ok (.lload_n 2, 1) := by decide +kernel
theorem d1_70 : decode prog_53_method_7_code 70 = .ok (.lload 6, 2) := by decide +kernel
theorem d1_72 : decode prog_53_method_7_code 72 = .ok (.lmul, 1) := by decide +kernel
theorem d1_73 : decode prog_53_method_7_code 73 = .ok (.l2i, 1) := by decide +kernel
theorem d1_74 : decode prog_53_method_7_code 74 = .ok (.ireturn, 1) := by decide +kernel
abbrev Y1 : MethodName := ⟨"com/example/stripewright/stripewright/Timestamps", "nanos", "(J)I"⟩
def RM1 : Room := { frames := 0, cells := 0, slots := 0, locals := 0 }
theorem pd_1 : parseMethodDescriptor Y1.desc = some ⟨[.long], some .int⟩ := by decide +kernel
theorem pn_1 : plainName "com/example/stripewright/stripewright/Timestamps" = true := by first | (simp [plainName, overriddenIn]; done) | decide +kernel
theorem ef_1 (m : MethodId) (x0 : Int64) : entryFrame m #[.long x0] 9 = mkF m 0 #[.val (.long x0), .second, .unset, .unset, .unset, .unset, .unset, .unset, .unset] [] := by first | (simp [entryFrame, mkF, argsToLocals, Value.category]; done) | rfl
set_option maxRecDepth 65536 in
set_option maxHeartbeats 40000000 in
theorem rm1 (l : Launch) (Z : State) (a0 : Array Value) (hw : ∀ d ∈ tables_1, d.before a0 Z = true) (x0 : Int64)  (h0 : Heap) (r : Int32) (hf : f1_0 x0 = some r)  :
    MetFree l Y1 (head1 ([Jvm.Cond.code Y1 prog_53_method_7_code 9 (some .int)]) RM1) (fun a U => a = #[.long x0] ∧ Z.Warmed39 U.vm ∧ U.heap = h0) (fun _ _ _ _ _ => True) (fun _ U o U' => ∃ v L, o = .returned v ∧ (PQ h0 (some (.int r))) v U'.heap L ∧ FrameEnd U o U' L RM1.cells RM1.slots) := by
  refine MetFree.of_bodySF (plainFor_of_name pn_1) hisR ?_
  intro p e s m args below meth c s₁ Bd hml0 hP hK
  obtain ⟨rfl, hZ, hh⟩ := hP
  have hx := Bd.exec
  have hby := Bd.bytes
  have hlk : meth.locks = false := BodyLoose.notSynchronized Bd
  have hret := Bd.returns
  have hml : c.maxLocals = 9 := hml0
  have hown : s.vm.findClass "com/example/stripewright/stripewright/Timestamps" = some m.cls := findClass_of_methodNamed Bd.named
  have X0 : Stand p l e RM1 s m #[.long x0] below meth c s₁ [] 0 0 := Stand.of_body Bd
  have e0 : s₁.heap = h0 := by rw [← hh, Bd.state]; rfl
  suffices G : Go p e below s RM1.cells RM1.slots (PQ h0 (some (.int r))) m s₁ 0 #[.val (.long x0), .second, .unset, .unset, .unset, .unset, .unset, .unset, .unset] [] by
    obtain ⟨s₂, o, h1, h2⟩ := G
    exact ⟨s₂, o, castTop (ef_1 m x0) h1, h2⟩
  have hf0 := hf
  clear hf
  have B33 : ∀ n : Nat, ∀ (T : State), Stand p l e RM1 s m #[.long x0] below meth c T [] 0 0 → T.heap = h0 → ∀ (x0 : Int64) (x2 : Int64) (x4 : Int32) (x5 : Int32) (x6 : Int64) (x8 : Int32), f1_33 n x2 x5 x6 x8 = some r → Go p e below s RM1.cells RM1.slots (PQ h0 (some (.int r))) m T 33 #[.val (.long x0), .second, .val (.long x2), .second, .val (.int x4), .val (.int x5), .val (.long x6), .second, .val (.int x8)] [] := by
    intro n
    induction n with
    | zero => intro T5 X5 e5 x0 x2 x4 x5 x6 x8 hf; exact absurd (show none = some r from hf) nofun
    | succ n ih =>
      intro T5 X5 e5 x0 x2 x4 x5 x6 x8 hf
      rw [f1_33] at hf
      refine Go.iload X5 hx hby (v := x8) d1_33 rfl rfl ?_
      refine Go.iload X5 hx hby (v := x5) d1_35 rfl rfl ?_
      refine Go.icmp_ge X5 hx hby (pc' := 54) d1_37 (by decide) (by decide) rfl (fun hc6 => ?_) (fun hc6 => ?_)
      · replace hf := (if_neg hc6).symm.trans hf
        refine Go.lloadN X5 hx hby (v := x2) d1_54 rfl rfl ?_
        refine Go.ldcJ X5 hx hby hZ (v := (999999999 : Int64)) hown (hw _ (List.mem_of_getElem? (i := 5) rfl)) d1_55 rfl ?_
        refine Go.lload X5 hx hby (v := x6) d1_58 rfl rfl ?_
        rcases Decidable.em (x6 = 0) with hy7 | hy7
        · exact absurd ((if_pos hy7).symm.trans hf) nofun
        replace hf := (if_neg hy7).symm.trans hf
        refine Go.ldiv X5 hx hby d1_60 rfl hy7 ?_
        refine Go.lcmp X5 hx hby d1_61 rfl ?_
        refine Go.ifL_le X5 hx hby (pc' := 69) d1_62 (by decide) (by decide) rfl (fun hc8 => ?_) (fun hc8 => ?_)
        · replace hf := (if_neg hc8).symm.trans hf
          refine Go.lloadN X5 hx hby (v := x2) d1_69 rfl rfl ?_
          refine Go.lload X5 hx hby (v := x6) d1_70 rfl rfl ?_
          refine Go.lmul X5 hx hby d1_72 rfl ?_
          refine Go.l2i X5 hx hby d1_73 rfl ?_
          exact Go.iretI X5 hx hby hlk hret d1_74 (by decide) (by decide) ⟨congrArg (fun z => some (Value.int z)) (Option.some.inj hf), rfl, e5⟩
        · replace hf := (if_pos hc8).symm.trans hf
          refine Go.iconst X5 hx hby (v := (-1 : Int32)) d1_65 rfl rfl ?_
          refine Go.goto X5 hx hby (pc' := 74) d1_66 (by decide) (by decide) ?_
          exact Go.iretI X5 hx hby hlk hret d1_74 (by decide) (by decide) ⟨congrArg (fun z => some (Value.int z)) (Option.some.inj hf), rfl, e5⟩
      · replace hf := (if_pos hc6).symm.trans hf
        refine Go.lload X5 hx hby (v := x6) d1_40 rfl rfl ?_
        refine Go.ldcJ X5 hx hby hZ (v := (10 : Int64)) hown (hw _ (List.mem_of_getElem? (i := 15) rfl)) d1_42 rfl ?_
        refine Go.lmul X5 hx hby d1_45 rfl ?_
        refine Go.lstore X5 hx hby (Ls' := #[.val (.long x0), .second, .val (.long x2), .second, .val (.int x4), .val (.int x5), .val (.long (x6 * (10 : Int64))), .second, .val (.int x8)]) d1_46 rfl rfl ?_
        refine Go.iinc X5 hx hby (x := x8) (v := (1 : Int32)) (Ls' := #[.val (.long x0), .second, .val (.long x2), .second, .val (.int x4), .val (.int x5), .val (.long (x6 * (10 : Int64))), .second, .val (.int (x8 + (1 : Int32)))]) d1_48 rfl rfl rfl rfl ?_
        refine Go.goto X5 hx hby (pc' := 33) d1_51 (by decide) (by decide) ?_
        exact ih T5 X5 e5 x0 x2 x4 x5 (x6 * (10 : Int64)) (x8 + (1 : Int32)) hf
  have B25 : ∀ (T : State), Stand p l e RM1 s m #[.long x0] below meth c T [] 0 0 → T.heap = h0 → ∀ (x0 : Int64) (x2 : Int64) (x4 : Int32) (t0 : Int32), f1_25 x2 t0 = some r → Go p e below s RM1.cells RM1.slots (PQ h0 (some (.int r))) m T 25 #[.val (.long x0), .second, .val (.long x2), .second, .val (.int x4), .unset, .unset, .unset, .unset] [.int t0] := by
    intro T9 X9 e9 x0 x2 x4 t0 hf
    unfold f1_25 at hf
    refine Go.istore X9 hx hby (Ls' := #[.val (.long x0), .second, .val (.long x2), .second, .val (.int x4), .val (.int t0), .unset, .unset, .unset]) d1_25 rfl rfl ?_
    refine Go.lconst X9 hx hby (v := (1 : Int64)) d1_27 rfl rfl ?_
    refine Go.lstore X9 hx hby (Ls' := #[.val (.long x0), .second, .val (.long x2), .second, .val (.int x4), .val (.int t0), .val (.long (1 : Int64)), .second, .unset]) d1_28 rfl rfl ?_
    refine Go.iconst X9 hx hby (v := (0 : Int32)) d1_30 rfl rfl ?_
    refine Go.istore X9 hx hby (Ls' := #[.val (.long x0), .second, .val (.long x2), .second, .val (.int x4), .val (.int t0), .val (.long (1 : Int64)), .second, .val (.int (0 : Int32))]) d1_31 rfl rfl ?_
    exact B33 _ T9 X9 e9 x0 x2 x4 t0 (1 : Int64) (0 : Int32) hf
  have hf := hf0
  unfold f1_0 at hf
  refine Go.lloadN X0 hx hby (v := x0) d1_0 rfl rfl ?_
  refine Go.iconst X0 hx hby (v := (3 : Int32)) d1_1 rfl rfl ?_
  refine Go.lushr X0 hx hby d1_2 rfl ?_
  refine Go.lstoreN X0 hx hby (Ls' := #[.val (.long x0), .second, .val (.long (XT.ushrL x0 (3 : Int32))), .second, .unset, .unset, .unset, .unset, .unset]) d1_3 rfl rfl ?_
  refine Go.lloadN X0 hx hby (v := x0) d1_4 rfl rfl ?_
  refine Go.ldcJ X0 hx hby hZ (v := (7 : Int64)) hown (hw _ (List.mem_of_getElem? (i := 4) rfl)) d1_5 rfl ?_
  refine Go.land X0 hx hby d1_8 rfl ?_
  refine Go.l2i X0 hx hby d1_9 rfl ?_
  refine Go.istore X0 hx hby (Ls' := #[.val (.long x0), .second, .val (.long (XT.ushrL x0 (3 : Int32))), .second, .val (.int (((x0 &&& (7 : Int64))).toInt32)), .unset, .unset, .unset, .unset]) d1_10 rfl rfl ?_
  refine Go.iload X0 hx hby (v := (((x0 &&& (7 : Int64))).toInt32)) d1_12 rfl rfl ?_
  refine Go.if_ne X0 hx hby (pc' := 21) d1_14 (by decide) (by decide) rfl (fun hc10 => ?_) (fun hc10 => ?_)
  · replace hf := (if_neg hc10).symm.trans hf
    refine Go.iload X0 hx hby (v := (((x0 &&& (7 : Int64))).toInt32)) d1_21 rfl rfl ?_
    refine Go.iconst X0 hx hby (v := (1 : Int32)) d1_23 rfl rfl ?_
    refine Go.iadd X0 hx hby d1_24 rfl ?_
    exact B25 s₁ X0 e0 x0 (XT.ushrL x0 (3 : Int32)) (((x0 &&& (7 : Int64))).toInt32) ((((x0 &&& (7 : Int64))).toInt32) + (1 : Int32)) hf
  · replace hf := (if_pos hc10).symm.trans hf
    refine Go.iconst X0 hx hby (v := (0 : Int32)) d1_17 rfl rfl ?_
    refine Go.goto X0 hx hby (pc' := 25) d1_18 (by decide) (by decide) ?_
    exact B25 s₁ X0 e0 x0 (XT.ushrL x0 (3 : Int32)) (((x0 &&& (7 : Int64))).toInt32) (0 : Int32) hf
-- body 3
def f3_0 (x0 : Int32) : Option (Int64) := if x0 = 0 then some (1 : Int64) else if x0 = (1 : Int32) then some (100 : Int64) else if x0 = (2 : Int32) then some (1000 : Int64) else if x0 = (3 : Int32) then some (10000 : Int64) else if x0 = (4 : Int32) then some (100000 : Int64) else if x0 = (5 : Int32) then some (1000000 : Int64) else if x0 = (6 : Int32) then some (10000000 : Int64) else some (100000000 : Int64)
theorem d3_0 : decode method_2_code 0 = .ok (.iload_n 0, 1) := by decide +kernel
theorem d3_1 : decode method_2_code 1 = .ok (.ifCond .ne 5, 3) := by decide +kernel
theorem d3_4 : decode method_2_code 4 = .ok (.lconst 1, 1) := by decide +kernel
theorem d3_5 : decode method_2_code 5 = .ok (.lreturn, 1) := by decide +kernel
theorem d3_6 : decode method_2_code 6 = .ok (.iload_n 0, 1) := by decide +kernel
theorem d3_7 : decode method_2_code 7 = .ok (.iconst 1, 1) := by decide +kernel
theorem d3_8 : decode method_2_code 8 = .ok (.if_icmp .ne 7, 3) := by decide +kernel
theorem d3_11 : decode method_2_code 11 = .ok (.ldc2_w 7, 3) := by decide +kernel
theorem d3_14 : decode method_2_code 14 = .ok (.lreturn, 1) := by decide +kernel
theorem d3_15 : decode method_2_code 15 = .ok (.iload_n 0, 1) := by decide +kernel
theorem d3_16 : decode method_2_code 16 = .ok (.iconst 2, 1) := by decide +kernel
theorem d3_17 : decode method_2_code 17 = .ok (.if_icmp .ne 7, 3) := by decide +kernel
theorem d3_20 : decode method_2_code 20 = .ok (.ldc2_w 9, 3) := by decide +kernel
theorem d3_23 : decode method_2_code 23 = .ok (.lreturn, 1) := by decide +kernel
theorem d3_24 : decode method_2_code 24 = .ok (.iload_n 0, 1) := by decide +kernel
theorem d3_25 : decode method_2_code 25 = .ok (.iconst 3, 1) := by decide +kernel
theorem d3_26 : decode method_2_code 26 = .ok (.if_icmp .ne 7, 3) := by decide +kernel
theorem d3_29 : decode method_2_code 29 = .ok (.ldc2_w 11, 3) := by decide +kernel
theorem d3_32 : decode method_2_code 32 = .ok (.lreturn, 1) := by decide +kernel
theorem d3_33 : decode method_2_code 33 = .ok (.iload_n 0, 1) := by decide +kernel
theorem d3_34 : decode method_2_code 34 = .ok (.iconst 4, 1) := by decide +kernel
theorem d3_35 : decode method_2_code 35 = .ok (.if_icmp .ne 7, 3) := by decide +kernel
theorem d3_38 : decode method_2_code 38 = .ok (.ldc2_w 13, 3) := by decide +kernel
theorem d3_41 : decode method_2_code 41 = .ok (.lreturn, 1) := by decide +kernel
theorem d3_42 : decode method_2_code 42 = .ok (.iload_n 0, 1) := by decide +kernel
theorem d3_43 : decode method_2_code 43 = .ok (.iconst 5, 1) := by decide +kernel
theorem d3_44 : decode method_2_code 44 = .ok (.if_icmp .ne 7, 3) := by decide +kernel
theorem d3_47 : decode method_2_code 47 = .ok (.ldc2_w 15, 3) := by decide +kernel
theorem d3_50 : decode method_2_code 50 = .ok (.lreturn, 1) := by decide +kernel
theorem d3_51 : decode method_2_code 51 = .ok (.iload_n 0, 1) := by decide +kernel
theorem d3_52 : decode method_2_code 52 = .ok (.bipush 6, 2) := by decide +kernel
theorem d3_54 : decode method_2_code 54 = .ok (.if_icmp .ne 7, 3) := by decide +kernel
theorem d3_57 : decode method_2_code 57 = .ok (.ldc2_w 17, 3) := by decide +kernel
theorem d3_60 : decode method_2_code 60 = .ok (.lreturn, 1) := by decide +kernel
theorem d3_61 : decode method_2_code 61 = .ok (.ldc2_w 19, 3) := by decide +kernel
theorem d3_64 : decode method_2_code 64 = .ok (.lreturn, 1) := by decide +kernel
abbrev Y3 : MethodName := ⟨"com/example/stripewright/stripewright/TimestampsNanosPinLaw", "scaleOf", "(I)J"⟩
def RM3 : Room := { frames := 0, cells := 0, slots := 0, locals := 0 }
theorem pd_3 : parseMethodDescriptor Y3.desc = some ⟨[.int], some .long⟩ := by decide +kernel
theorem pn_3 : plainName "com/example/stripewright/stripewright/TimestampsNanosPinLaw" = true := by first | (simp [plainName, overriddenIn]; done) | decide +kernel
theorem ef_3 (m : MethodId) (x0 : Int32) : entryFrame m #[.int x0] 1 = mkF m 0 #[.val (.int x0)] [] := by first | (simp [entryFrame, mkF, argsToLocals, Value.category]; done) | rfl
set_option maxRecDepth 65536 in
set_option maxHeartbeats 40000000 in
theorem rm3 (l : Launch) (Z : State) (a0 : Array Value) (hw : ∀ d ∈ tables_1, d.before a0 Z = true) (x0 : Int32)  (h0 : Heap) (r : Int64) (hf : f3_0 x0 = some r)  :
    MetFree l Y3 (head1 ([Jvm.Cond.code Y3 method_2_code 1 (some .long)]) RM3) (fun a U => a = #[.int x0] ∧ Z.Warmed39 U.vm ∧ U.heap = h0) (fun _ _ _ _ _ => True) (fun _ U o U' => ∃ v L, o = .returned v ∧ (PQ h0 (some (.long r))) v U'.heap L ∧ FrameEnd U o U' L RM3.cells RM3.slots) := by
  refine MetFree.of_bodySF (plainFor_of_name pn_3) hisR ?_
  intro p e s m args below meth c s₁ Bd hml0 hP hK
  obtain ⟨rfl, hZ, hh⟩ := hP
  have hx := Bd.exec
  have hby := Bd.bytes
  have hlk : meth.locks = false := BodyLoose.notSynchronized Bd
  have hret := Bd.returns
  have hml : c.maxLocals = 1 := hml0
  have hown : s.vm.findClass "com/example/stripewright/stripewright/TimestampsNanosPinLaw" = some m.cls := findClass_of_methodNamed Bd.named
  have X0 : Stand p l e RM3 s m #[.int x0] below meth c s₁ [] 0 0 := Stand.of_body Bd
  have e0 : s₁.heap = h0 := by rw [← hh, Bd.state]; rfl
  suffices G : Go p e below s RM3.cells RM3.slots (PQ h0 (some (.long r))) m s₁ 0 #[.val (.int x0)] [] by
    obtain ⟨s₂, o, h1, h2⟩ := G
    exact ⟨s₂, o, castTop (ef_3 m x0) h1, h2⟩
  have hf0 := hf
  clear hf
  have hf := hf0
  unfold f3_0 at hf
  refine Go.iloadN X0 hx hby (v := x0) d3_0 rfl rfl ?_
  refine Go.if_ne X0 hx hby (pc' := 6) d3_1 (by decide) (by decide) rfl (fun hc18 => ?_) (fun hc18 => ?_)
  · replace hf := (if_neg hc18).symm.trans hf
    refine Go.iloadN X0 hx hby (v := x0) d3_6 rfl rfl ?_
    refine Go.iconst X0 hx hby (v := (1 : Int32)) d3_7 rfl rfl ?_
    refine Go.icmp_ne X0 hx hby (pc' := 15) d3_8 (by decide) (by decide) rfl (fun hc19 => ?_) (fun hc19 => ?_)
    · replace hf := (if_neg hc19).symm.trans hf
      refine Go.iloadN X0 hx hby (v := x0) d3_15 rfl rfl ?_
      refine Go.iconst X0 hx hby (v := (2 : Int32)) d3_16 rfl rfl ?_
      refine Go.icmp_ne X0 hx hby (pc' := 24) d3_17 (by decide) (by decide) rfl (fun hc20 => ?_) (fun hc20 => ?_)
      · replace hf := (if_neg hc20).symm.trans hf
        refine Go.iloadN X0 hx hby (v := x0) d3_24 rfl rfl ?_
        refine Go.iconst X0 hx hby (v := (3 : Int32)) d3_25 rfl rfl ?_
        refine Go.icmp_ne X0 hx hby (pc' := 33) d3_26 (by decide) (by decide) rfl (fun hc21 => ?_) (fun hc21 => ?_)
        · replace hf := (if_neg hc21).symm.trans hf
          refine Go.iloadN X0 hx hby (v := x0) d3_33 rfl rfl ?_
          refine Go.iconst X0 hx hby (v := (4 : Int32)) d3_34 rfl rfl ?_
          refine Go.icmp_ne X0 hx hby (pc' := 42) d3_35 (by decide) (by decide) rfl (fun hc22 => ?_) (fun hc22 => ?_)
          · replace hf := (if_neg hc22).symm.trans hf
            refine Go.iloadN X0 hx hby (v := x0) d3_42 rfl rfl ?_
            refine Go.iconst X0 hx hby (v := (5 : Int32)) d3_43 rfl rfl ?_
            refine Go.icmp_ne X0 hx hby (pc' := 51) d3_44 (by decide) (by decide) rfl (fun hc23 => ?_) (fun hc23 => ?_)
            · replace hf := (if_neg hc23).symm.trans hf
              refine Go.iloadN X0 hx hby (v := x0) d3_51 rfl rfl ?_
              refine Go.bipush X0 hx hby (v := (6 : Int32)) d3_52 rfl rfl ?_
              refine Go.icmp_ne X0 hx hby (pc' := 61) d3_54 (by decide) (by decide) rfl (fun hc24 => ?_) (fun hc24 => ?_)
              · replace hf := (if_neg hc24).symm.trans hf
                refine Go.ldcJ X0 hx hby hZ (v := (100000000 : Int64)) hown (hw _ (List.mem_of_getElem? (i := 16) rfl)) d3_61 rfl ?_
                exact Go.lret X0 hx hby hlk hret d3_64 (by decide) (by decide) ⟨congrArg (fun z => some (Value.long z)) (Option.some.inj hf), rfl, e0⟩
              · replace hf := (if_pos hc24).symm.trans hf
                refine Go.ldcJ X0 hx hby hZ (v := (10000000 : Int64)) hown (hw _ (List.mem_of_getElem? (i := 21) rfl)) d3_57 rfl ?_
                exact Go.lret X0 hx hby hlk hret d3_60 (by decide) (by decide) ⟨congrArg (fun z => some (Value.long z)) (Option.some.inj hf), rfl, e0⟩
            · replace hf := (if_pos hc23).symm.trans hf
              refine Go.ldcJ X0 hx hby hZ (v := (1000000 : Int64)) hown (hw _ (List.mem_of_getElem? (i := 18) rfl)) d3_47 rfl ?_
              exact Go.lret X0 hx hby hlk hret d3_50 (by decide) (by decide) ⟨congrArg (fun z => some (Value.long z)) (Option.some.inj hf), rfl, e0⟩
          · replace hf := (if_pos hc22).symm.trans hf
            refine Go.ldcJ X0 hx hby hZ (v := (100000 : Int64)) hown (hw _ (List.mem_of_getElem? (i := 17) rfl)) d3_38 rfl ?_
            exact Go.lret X0 hx hby hlk hret d3_41 (by decide) (by decide) ⟨congrArg (fun z => some (Value.long z)) (Option.some.inj hf), rfl, e0⟩
        · replace hf := (if_pos hc21).symm.trans hf
          refine Go.ldcJ X0 hx hby hZ (v := (10000 : Int64)) hown (hw _ (List.mem_of_getElem? (i := 22) rfl)) d3_29 rfl ?_
          exact Go.lret X0 hx hby hlk hret d3_32 (by decide) (by decide) ⟨congrArg (fun z => some (Value.long z)) (Option.some.inj hf), rfl, e0⟩
      · replace hf := (if_pos hc20).symm.trans hf
        refine Go.ldcJ X0 hx hby hZ (v := (1000 : Int64)) hown (hw _ (List.mem_of_getElem? (i := 20) rfl)) d3_20 rfl ?_
        exact Go.lret X0 hx hby hlk hret d3_23 (by decide) (by decide) ⟨congrArg (fun z => some (Value.long z)) (Option.some.inj hf), rfl, e0⟩
    · replace hf := (if_pos hc19).symm.trans hf
      refine Go.ldcJ X0 hx hby hZ (v := (100 : Int64)) hown (hw _ (List.mem_of_getElem? (i := 19) rfl)) d3_11 rfl ?_
      exact Go.lret X0 hx hby hlk hret d3_14 (by decide) (by decide) ⟨congrArg (fun z => some (Value.long z)) (Option.some.inj hf), rfl, e0⟩
  · replace hf := (if_pos hc18).symm.trans hf
    refine Go.lconst X0 hx hby (v := (1 : Int64)) d3_4 rfl rfl ?_
    exact Go.lret X0 hx hby hlk hret d3_5 (by decide) (by decide) ⟨congrArg (fun z => some (Value.long z)) (Option.some.inj hf), rfl, e0⟩
-- body 2
def f2_0 (x0 : Int64) : Option (Int32) := (f3_0 (((x0 &&& (7 : Int64))).toInt32)).bind fun r25 => if (999999999 : Int64) < (XT.ushrL x0 (3 : Int32)) then some (-1 : Int32) else if (999999999 : Int64) < ((XT.ushrL x0 (3 : Int32)) * r25) then some (-1 : Int32) else some ((((XT.ushrL x0 (3 : Int32)) * r25)).toInt32)
theorem d2_0 : decode method_3_code 0 = .ok (.lload_n 0, 1) := by decide +kernel
theorem d2_1 : decode method_3_code 1 = .ok (.iconst 3, 1) := by decide +kernel
theorem d2_2 : decode method_3_code 2 = .ok (.lushr, 1) := by decide +kernel
theorem d2_3 : decode method_3_code 3 = .ok (.lstore_n 2, 1) := by decide +kernel
theorem d2_4 : decode method_3_code 4 = .ok (.lload_n 0, 1) := by decide +kernel
theorem d2_5 : decode method_3_code 5 = .ok (.ldc2_w 21, 3) := by decide +kernel
theorem d2_8 : decode method_3_code 8 = .ok (.land, 1) := by decide +kernel
theorem d2_9 : decode method_3_code 9 = .ok (.l2i, 1) := by decide +kernel
theorem d2_10 : decode method_3_code 10 = .ok (.invokestatic 23, 3) := by decide +kernel
theorem d2_13 : decode method_3_code 13 = .ok (.lstore 4, 2) := by decide +kernel
theorem d2_15 : decode method_3_code 15 = .ok (.lload_n 2, 1) := by decide +kernel
theorem d2_16 : decode method_3_code 16 = .ok (.ldc2_w 29, 3) := by decide +kernel
theorem d2_19 : decode method_3_code 19 = .ok (.lcmp, 1) := by decide +kernel
theorem d2_20 : decode method_3_code 20 = .ok (.ifCond .le 5, 3) := by decide +kernel
theorem d2_23 : decode method_3_code 23 = .ok (.iconst (-1), 1) := by decide +kernel
theorem d2_24 : decode method_3_code 24 = .ok (.ireturn, 1) := by decide +kernel
theorem d2_25 : decode method_3_code 25 = .ok (.lload_n 2, 1) := by decide +kernel
theorem d2_26 : decode method_3_code 26 = .ok (.lload 4, 2) := by decide +kernel
theorem d2_28 : decode method_3_code 28 = .ok (.lmul, 1) := by decide +kernel
theorem d2_29 : decode method_3_code 29 = .ok (.lstore 6, 2) := by decide +kernel
theorem d2_31 : decode method_3_code 31 = .ok (.lload 6, 2) := by decide +kernel
theorem d2_33 : decode method_3_code 33 = .ok (.ldc2_w 29, 3) := by decide +kernel
theorem d2_36 : decode method_3_code 36 = .ok (.lcmp, 1) := by decide +kernel
theorem d2_37 : decode method_3_code 37 = .ok (.ifCond .le 5, 3) := by decide +kernel
theorem d2_40 : decode method_3_code 40 = .ok (.iconst (-1), 1) := by decide +kernel
theorem d2_41 : decode method_3_code 41 = .ok (.ireturn, 1) := by decide +kernel
theorem d2_42 : decode method_3_code 42 = .ok (.lload 6, 2) := by decide +kernel
theorem d2_44 : decode method_3_code 44 = .ok (.l2i, 1) := by decide +kernel
theorem d2_45 : decode method_3_code 45 = .ok (.ireturn, 1) := by decide +kernel
abbrev Y2 : MethodName := ⟨"com/example/stripewright/stripewright/TimestampsNanosPinLaw", "expected", "(J)I"⟩
def RM2 : Room := { frames := 1, cells := 0, slots := 0, locals := 12 }
theorem pd_2 : parseMethodDescriptor Y2.desc = some ⟨[.long], some .int⟩ := by decide +kernel
theorem pn_2 : plainName "com/example/stripewright/stripewright/TimestampsNanosPinLaw" = true := by first | (simp [plainName, overriddenIn]; done) | decide +kernel
theorem ef_2 (m : MethodId) (x0 : Int64) : entryFrame m #[.long x0] 8 = mkF m 0 #[.val (.long x0), .second, .unset, .unset, .unset, .unset, .unset, .unset] [] := by first | (simp [entryFrame, mkF, argsToLocals, Value.category]; done) | rfl
set_option maxRecDepth 65536 in
set_option maxHeartbeats 40000000 in
theorem rm2 (l : Launch) (Z : State) (a0 : Array Value) (hw : ∀ d ∈ tables_1, d.before a0 Z = true) (x0 : Int64)  (h0 : Heap) (r : Int32) (hf : f2_0 x0 = some r)  :
    MetFree l Y2 (head1 ([Jvm.Cond.code Y2 method_3_code 8 (some .int)]) RM2) (fun a U => a = #[.long x0] ∧ Z.Warmed39 U.vm ∧ U.heap = h0) (fun _ _ _ _ _ => True) (fun _ U o U' => ∃ v L, o = .returned v ∧ (PQ h0 (some (.int r))) v U'.heap L ∧ FrameEnd U o U' L RM2.cells RM2.slots) := by
  refine MetFree.of_bodySF (plainFor_of_name pn_2) hisR ?_
  intro p e s m args below meth c s₁ Bd hml0 hP hK
  obtain ⟨rfl, hZ, hh⟩ := hP
  have hx := Bd.exec
  have hby := Bd.bytes
  have hlk : meth.locks = false := BodyLoose.notSynchronized Bd
  have hret := Bd.returns
  have hml : c.maxLocals = 8 := hml0
  have hown : s.vm.findClass "com/example/stripewright/stripewright/TimestampsNanosPinLaw" = some m.cls := findClass_of_methodNamed Bd.named
  have X0 : Stand p l e RM2 s m #[.long x0] below meth c s₁ [] 0 0 := Stand.of_body Bd
  have e0 : s₁.heap = h0 := by rw [← hh, Bd.state]; rfl
  suffices G : Go p e below s RM2.cells RM2.slots (PQ h0 (some (.int r))) m s₁ 0 #[.val (.long x0), .second, .unset, .unset, .unset, .unset, .unset, .unset] [] by
    obtain ⟨s₂, o, h1, h2⟩ := G
    exact ⟨s₂, o, castTop (ef_2 m x0) h1, h2⟩
  have hf0 := hf
  clear hf
  have hf := hf0
  unfold f2_0 at hf
  refine Go.lloadN X0 hx hby (v := x0) d2_0 rfl rfl ?_
  refine Go.iconst X0 hx hby (v := (3 : Int32)) d2_1 rfl rfl ?_
  refine Go.lushr X0 hx hby d2_2 rfl ?_
  refine Go.lstoreN X0 hx hby (Ls' := #[.val (.long x0), .second, .val (.long (XT.ushrL x0 (3 : Int32))), .second, .unset, .unset, .unset, .unset]) d2_3 rfl rfl ?_
  refine Go.lloadN X0 hx hby (v := x0) d2_4 rfl rfl ?_
  refine Go.ldcJ X0 hx hby hZ (v := (7 : Int64)) hown (hw _ (List.mem_of_getElem? (i := 10) rfl)) d2_5 rfl ?_
  refine Go.land X0 hx hby d2_8 rfl ?_
  refine Go.l2i X0 hx hby d2_9 rfl ?_
  obtain ⟨r28, g28, hf⟩ := Option.bind_eq_some_iff.mp hf
  refine Go.callSP X0 hx hby hZ (by rw [hml]; rfl) (W := 0) (argsL := [.int (((x0 &&& (7 : Int64))).toInt32)]) (rest := []) hown (hw _ (List.mem_of_getElem? (i := 11) rfl)) (hw _ (List.mem_of_getElem? (i := 12) rfl)) (hw _ (List.mem_of_getElem? (i := 8) rfl)) (hw _ (List.mem_of_getElem? (i := 13) rfl)) (by decide) (rm3 l Z a0 hw (((x0 &&& (7 : Int64))).toInt32)  h0 r28 g28 ) (by decide) (by decide) e0 pd_3 rfl rfl rfl (Nat.le_of_eq rfl) rfl rfl (by decide) (by decide) d2_10 rfl (fun T28 X28 e28 => ?_)
  refine Go.lstore X28 hx hby (Ls' := #[.val (.long x0), .second, .val (.long (XT.ushrL x0 (3 : Int32))), .second, .val (.long r28), .second, .unset, .unset]) d2_13 rfl rfl ?_
  refine Go.lloadN X28 hx hby (v := (XT.ushrL x0 (3 : Int32))) d2_15 rfl rfl ?_
  refine Go.ldcJ X28 hx hby hZ (v := (999999999 : Int64)) hown (hw _ (List.mem_of_getElem? (i := 14) rfl)) d2_16 rfl ?_
  refine Go.lcmp X28 hx hby d2_19 rfl ?_
  refine Go.ifL_le X28 hx hby (pc' := 25) d2_20 (by decide) (by decide) rfl (fun hc29 => ?_) (fun hc29 => ?_)
  · replace hf := (if_neg hc29).symm.trans hf
    refine Go.lloadN X28 hx hby (v := (XT.ushrL x0 (3 : Int32))) d2_25 rfl rfl ?_
    refine Go.lload X28 hx hby (v := r28) d2_26 rfl rfl ?_
    refine Go.lmul X28 hx hby d2_28 rfl ?_
    refine Go.lstore X28 hx hby (Ls' := #[.val (.long x0), .second, .val (.long (XT.ushrL x0 (3 : Int32))), .second, .val (.long r28), .second, .val (.long ((XT.ushrL x0 (3 : Int32)) * r28)), .second]) d2_29 rfl rfl ?_
    refine Go.lload X28 hx hby (v := ((XT.ushrL x0 (3 : Int32)) * r28)) d2_31 rfl rfl ?_
    refine Go.ldcJ X28 hx hby hZ (v := (999999999 : Int64)) hown (hw _ (List.mem_of_getElem? (i := 14) rfl)) d2_33 rfl ?_
    refine Go.lcmp X28 hx hby d2_36 rfl ?_
    refine Go.ifL_le X28 hx hby (pc' := 42) d2_37 (by decide) (by decide) rfl (fun hc30 => ?_) (fun hc30 => ?_)
    · replace hf := (if_neg hc30).symm.trans hf
      refine Go.lload X28 hx hby (v := ((XT.ushrL x0 (3 : Int32)) * r28)) d2_42 rfl rfl ?_
      refine Go.l2i X28 hx hby d2_44 rfl ?_
      exact Go.iretI X28 hx hby hlk hret d2_45 (by decide) (by decide) ⟨congrArg (fun z => some (Value.int z)) (Option.some.inj hf), rfl, e28⟩
    · replace hf := (if_pos hc30).symm.trans hf
      refine Go.iconst X28 hx hby (v := (-1 : Int32)) d2_40 rfl rfl ?_
      exact Go.iretI X28 hx hby hlk hret d2_41 (by decide) (by decide) ⟨congrArg (fun z => some (Value.int z)) (Option.some.inj hf), rfl, e28⟩
  · replace hf := (if_pos hc29).symm.trans hf
    refine Go.iconst X28 hx hby (v := (-1 : Int32)) d2_23 rfl rfl ?_
    exact Go.iretI X28 hx hby hlk hret d2_24 (by decide) (by decide) ⟨congrArg (fun z => some (Value.int z)) (Option.some.inj hf), rfl, e28⟩
-- body 0
def f0_0 (x0 : Int64) (x2 : Int32) : Option (Int32) := (f1_0 (XT.ushrL x0 (x2 &&& (63 : Int32)))).bind fun r31 => (f2_0 (XT.ushrL x0 (x2 &&& (63 : Int32)))).bind fun r32 => if r31 = r32 then some (1 : Int32) else some (0 : Int32)
theorem pn_0 : plainName "com/example/stripewright/stripewright/TimestampsNanosPinLaw" = true := by first | (simp [plainName, overriddenIn]; done) | decide +kernel
theorem ef_0 (m : MethodId) (x0 : Int64) (x2 : Int32) : entryFrame m #[.long x0, .int x2] maxLocals = mkF m 0 #[.val (.long x0), .second, .val (.int x2), .unset, .unset] [] := by first | (simp [entryFrame, mkF, argsToLocals, Value.category, maxLocals]; done) | rfl
set_option maxRecDepth 65536 in
set_option maxHeartbeats 40000000 in
theorem rm0 (l : Launch) (Z : State) (a0 : Array Value) (hw : ∀ d ∈ tables_1, d.before a0 Z = true) (ws : List Jvm.Cond) (x0 : Int64) (x2 : Int32)  (h0 : Heap) (n0 : Nat) (Z0 : n0 ≤ h0.size) (r : Int32) (hf : f0_0 x0 x2 = some r)  :
    MetFree l x (head1 (Jvm.Cond.code x code maxLocals ret :: ws) room_1) (fun a U => a = #[.long x0, .int x2] ∧ Z.Warmed39 U.vm ∧ U.heap = h0) (fun _ _ _ _ _ => True) (fun _ U o U' => ∃ v L, o = .returned v ∧ (fun v h L => v = some (.int r) ∧ Fr n0 L) v U'.heap L ∧ FrameEnd U o U' L room_1.cells room_1.slots) := by
  refine MetFree.of_bodySF (plainFor_of_name pn_0) hisR ?_
  intro p e s m args below meth c s₁ Bd hml0 hP hK
  obtain ⟨rfl, hZ, hh⟩ := hP
  have hx := Bd.exec
  have hby := Bd.bytes
  have hlk : meth.locks = false := BodyLoose.notSynchronized Bd
  have hret := Bd.returns
  have hml : c.maxLocals = 5 := hml0
  have hown : s.vm.findClass "com/example/stripewright/stripewright/TimestampsNanosPinLaw" = some m.cls := findClass_of_methodNamed Bd.named
  have X0 : Stand p l e room_1 s m #[.long x0, .int x2] below meth c s₁ [] 0 0 := Stand.of_body Bd
  have e0 : s₁.heap = h0 := by rw [← hh, Bd.state]; rfl
  suffices G : Go p e below s room_1.cells room_1.slots (fun v h L => v = some (.int r) ∧ Fr n0 L) m s₁ 0 #[.val (.long x0), .second, .val (.int x2), .unset, .unset] [] by
    obtain ⟨s₂, o, h1, h2⟩ := G
    exact ⟨s₂, o, castTop (ef_0 m x0 x2) h1, h2⟩
  have hf0 := hf
  clear hf
  have hf := hf0
  unfold f0_0 at hf
  refine Go.lloadN X0 hx hby (v := x0) at_0 rfl rfl ?_
  refine Go.iloadN X0 hx hby (v := x2) at_1 rfl rfl ?_
  refine Go.bipush X0 hx hby (v := (63 : Int32)) at_2 rfl rfl ?_
  refine Go.iand X0 hx hby at_4 rfl ?_
  refine Go.lushr X0 hx hby at_5 rfl ?_
  refine Go.lstoreN X0 hx hby (Ls' := #[.val (.long x0), .second, .val (.int x2), .val (.long (XT.ushrL x0 (x2 &&& (63 : Int32)))), .second]) at_6 rfl rfl ?_
  refine Go.lloadN X0 hx hby (v := (XT.ushrL x0 (x2 &&& (63 : Int32)))) at_7 rfl rfl ?_
  obtain ⟨r34, g34, hf⟩ := Option.bind_eq_some_iff.mp hf
  refine Go.callSP X0 hx hby hZ (by rw [hml]; rfl) (W := 0) (argsL := [.long (XT.ushrL x0 (x2 &&& (63 : Int32)))]) (rest := []) hown (hw _ (List.mem_of_getElem? (i := 0) rfl)) (hw _ (List.mem_of_getElem? (i := 1) rfl)) (hw _ (List.mem_of_getElem? (i := 2) rfl)) (hw _ (List.mem_of_getElem? (i := 3) rfl)) (by decide) (rm1 l Z a0 hw (XT.ushrL x0 (x2 &&& (63 : Int32)))  h0 r34 g34 ) (by decide) (by decide) e0 pd_1 rfl rfl rfl (Nat.le_of_eq rfl) rfl rfl (by decide) (by decide) at_8 rfl (fun T34 X34 e34 => ?_)
  refine Go.lloadN X34 hx hby (v := (XT.ushrL x0 (x2 &&& (63 : Int32)))) at_11 rfl rfl ?_
  obtain ⟨r35, g35, hf⟩ := Option.bind_eq_some_iff.mp hf
  refine Go.callSP X34 hx hby hZ (by rw [hml]; rfl) (W := 1) (argsL := [.long (XT.ushrL x0 (x2 &&& (63 : Int32)))]) (rest := [.int r34]) hown (hw _ (List.mem_of_getElem? (i := 6) rfl)) (hw _ (List.mem_of_getElem? (i := 7) rfl)) (hw _ (List.mem_of_getElem? (i := 8) rfl)) (hw _ (List.mem_of_getElem? (i := 9) rfl)) (by decide) (rm2 l Z a0 hw (XT.ushrL x0 (x2 &&& (63 : Int32)))  h0 r35 g35 ) (by decide) (by decide) e34 pd_2 rfl rfl rfl (Nat.le_of_eq rfl) rfl rfl (by decide) (by decide) at_12 rfl (fun T35 X35 e35 => ?_)
  refine Go.icmp_ne X35 hx hby (pc' := 22) at_15 (by decide) (by decide) rfl (fun hc36 => ?_) (fun hc36 => ?_)
  · replace hf := (if_neg hc36).symm.trans hf
    refine Go.iconst X35 hx hby (v := (0 : Int32)) at_22 rfl rfl ?_
    exact Go.iretN X35 hx hby hlk hret (Or.inl rfl) (w' := (0 : Int32)) rfl at_23 (by decide) (by decide) ⟨congrArg (fun z => some (Value.int z)) (Option.some.inj hf), Fr.nil n0⟩
  · replace hf := (if_pos hc36).symm.trans hf
    refine Go.iconst X35 hx hby (v := (1 : Int32)) at_18 rfl rfl ?_
    refine Go.goto X35 hx hby (pc' := 23) at_19 (by decide) (by decide) ?_
    exact Go.iretN X35 hx hby hlk hret (Or.inl rfl) (w' := (1 : Int32)) rfl at_23 (by decide) (by decide) ⟨congrArg (fun z => some (Value.int z)) (Option.some.inj hf), Fr.nil n0⟩
theorem own_mask (x : Int32) (k : Nat) (hk : k ≤ 31) (m : Int32) (hm : m = Int32.ofNat (2 ^ k - 1)) : (x &&& m).toInt = x.toInt % (2 ^ k : Nat) := by
  subst hm
  have h1 : (x &&& Int32.ofNat (2 ^ k - 1)).toBitVec.toNat = x.toBitVec.toNat % 2 ^ k := by
    rw [Int32.toBitVec_and, BitVec.toNat_and]
    have : (Int32.ofNat (2 ^ k - 1)).toBitVec.toNat = 2 ^ k - 1 := by
      show (BitVec.ofNat 32 (2 ^ k - 1)).toNat = _
      rw [BitVec.toNat_ofNat]
      apply Nat.mod_eq_of_lt
      have : 2 ^ k ≤ 2 ^ 31 := Nat.pow_le_pow_right (by decide) hk
      omega
    rw [this, Nat.and_two_pow_sub_one_eq_mod]
  have hp : 2 ^ k ≤ 2 ^ 31 := Nat.pow_le_pow_right (by decide) hk
  have hpos : 0 < 2 ^ k := Nat.two_pow_pos k
  have hlt := Nat.mod_lt x.toBitVec.toNat hpos
  show (x &&& Int32.ofNat (2 ^ k - 1)).toBitVec.toInt = x.toBitVec.toInt % _
  rw [BitVec.toInt_eq_toNat_cond, h1, if_pos (by omega), BitVec.toInt_eq_toNat_cond]
  split
  · simp
  · have hd : (2 ^ k : Nat) ∣ 2 ^ 32 := Nat.pow_dvd_pow 2 (by omega)
    obtain ⟨q, hq⟩ := hd
    rw [Int.sub_emod, show ((2 ^ 32 : Nat) : Int) % (2 ^ k : Nat) = 0 by rw [hq]; simp]
    simp
theorem own_fin32 (x : Int32) (N : Nat) (h0 : 0 ≤ x.toInt) (h1 : x.toInt < N) : ∃ n : Fin N, x = Int32.ofNat n.val := by
  refine ⟨⟨x.toInt.toNat, by omega⟩, Int32.toInt_inj.mp ?_⟩
  have := x.toInt_lt
  rw [Int32.toInt_ofNat_of_lt (by show x.toInt.toNat < _; omega)]
  show x.toInt = (x.toInt.toNat : Int); omega
theorem own_remI (x y : Int32) (hx : 0 ≤ x.toInt) (hy : 0 < y.toInt) : (remI x y).toInt = x.toInt % y.toInt := by
  have h1 := x.toInt_lt; have h2 := y.toInt_lt
  have hq : (x / y).toInt = x.toInt / y.toInt := by
    rw [Int32.toInt_div, Int.tdiv_eq_ediv_of_nonneg hx]
    have a1 : 0 ≤ x.toInt / y.toInt := Int.ediv_nonneg hx (by omega)
    have a2 : x.toInt / y.toInt ≤ x.toInt := Int.ediv_le_self _ hx
    exact Int.bmod_eq_of_le (by omega) (by omega)
  have e := Int.emod_add_mul_ediv x.toInt y.toInt
  have m0 := Int.emod_nonneg x.toInt (b := y.toInt) (by omega)
  have hm : (x / y * y).toInt = x.toInt / y.toInt * y.toInt := by
    rw [Int32.toInt_mul, hq]
    have : x.toInt / y.toInt * y.toInt = y.toInt * (x.toInt / y.toInt) := Int.mul_comm _ _
    have a1 : 0 ≤ y.toInt * (x.toInt / y.toInt) := Int.mul_nonneg (by omega) (Int.ediv_nonneg hx (by omega))
    exact Int.bmod_eq_of_le (by omega) (by omega)
  unfold remI
  rw [Int32.toInt_sub, hm]
  have : x.toInt / y.toInt * y.toInt = y.toInt * (x.toInt / y.toInt) := Int.mul_comm _ _
  have m1 := Int.emod_lt_of_pos x.toInt hy
  rw [show x.toInt - x.toInt / y.toInt * y.toInt = x.toInt % y.toInt by omega]
  exact Int.bmod_eq_of_le (by omega) (by omega)
theorem own_bm (x : Int) (n : Nat) (m : Int) (h : (2 * m).toNat = n) (hm : 0 < m) : x.bmod n = (x + m) % (2 * m) - m := by
  have hn : (n : Int) = 2 * m := by omega
  rw [Int.bmod_def, hn, show ((2 * m + 1) / 2 : Int) = m by omega]
  have h1 := Int.emod_nonneg x (b := 2 * m) (by omega)
  have h2 := Int.emod_lt_of_pos x (b := 2 * m) (by omega)
  have e := Int.emod_add_mul_ediv x (2 * m)
  generalize x / (2 * m) = q at *
  generalize x % (2 * m) = r at *
  subst e
  rw [show r + 2 * m * q + m = (r + m) + 2 * m * q by omega, Int.add_mul_emod_self_left]
  split
  · rw [Int.emod_eq_of_lt (by omega) (by omega)]; omega
  · rw [show r + m = (r - m) + 2 * m * 1 by omega, Int.add_mul_emod_self_left, Int.emod_eq_of_lt (by omega) (by omega)]; omega
theorem own_i2b (x : Int32) : (i2bF x).toInt = (x.toInt + 128) % 256 - 128 := by
  unfold i2bF; rw [Int8.toInt_toInt32, Int32.toInt_toInt8]; exact own_bm _ _ 128 rfl (by decide)
theorem own_i2s (x : Int32) : (i2sF x).toInt = (x.toInt + 32768) % 65536 - 32768 := by
  unfold i2sF; rw [Int16.toInt_toInt32, Int32.toInt_toInt16]; exact own_bm _ _ 32768 rfl (by decide)
theorem own_tonat (x : Int32) : (x.toBitVec.toNat : Int) = x.toInt % 4294967296 := by
  show _ = x.toBitVec.toInt % 4294967296
  rw [BitVec.toInt_eq_toNat_cond]
  have := x.toBitVec.isLt
  split <;> omega
theorem own_toint (x : Int32) (h : x.toBitVec.toNat < 2147483648) : x.toInt = x.toBitVec.toNat := by
  show x.toBitVec.toInt = _
  rw [BitVec.toInt_eq_toNat_cond, if_pos (by omega)]
theorem own_tonatJ (x : Int64) : (x.toBitVec.toNat : Int) = x.toInt % 18446744073709551616 := by
  show _ = x.toBitVec.toInt % 18446744073709551616
  rw [BitVec.toInt_eq_toNat_cond]
  have := x.toBitVec.isLt
  split <;> omega
theorem own_tointJ (x : Int64) (h : x.toBitVec.toNat < 9223372036854775808) : x.toInt = x.toBitVec.toNat := by
  show x.toBitVec.toInt = _
  rw [BitVec.toInt_eq_toNat_cond, if_pos (by omega)]
theorem own_i2c (x : Int32) : (i2cF x).toInt = x.toInt % 65536 := by
  have h : (i2cF x).toBitVec.toNat = x.toBitVec.toNat % 65536 := by
    show (BitVec.setWidth 32 (BitVec.setWidth 16 x.toBitVec)).toNat = _
    rw [BitVec.toNat_setWidth, BitVec.toNat_setWidth]; omega
  have := own_tonat x
  rw [own_toint _ (by omega), h]; omega
theorem own_amt : ∀ k : Fin 32, ((Int32.ofNat k.val &&& 31).toBitVec.smod 32).toNat = k.val := by decide +kernel
theorem own_amtU : ∀ k : Fin 32, ((Int32.ofNat k.val &&& 31).toUInt32.toBitVec.toNat) = k.val := by decide +kernel
theorem own_shr (x : Int32) (k : Nat) (hk : k < 32) : (shrI x (Int32.ofNat k)).toInt = x.toInt / (2 ^ k : Nat) := by
  show (BitVec.sshiftRight x.toBitVec ((Int32.ofNat k &&& 31).toBitVec.smod 32).toNat).toInt = x.toBitVec.toInt / _
  rw [own_amt ⟨k, hk⟩, BitVec.toInt_sshiftRight, Int.shiftRight_eq_div_pow]
theorem own_shl (x : Int32) (k : Nat) (hk : k < 32) : (shlI x (Int32.ofNat k)).toInt = (x.toInt * (2 ^ k : Nat)).bmod 4294967296 := by
  show (x.toBitVec <<< ((Int32.ofNat k &&& 31).toBitVec.smod 32)).toInt = (x.toBitVec.toInt * _).bmod _
  rw [BitVec.shiftLeft_eq', own_amt ⟨k, hk⟩, BitVec.toInt_shiftLeft, Nat.shiftLeft_eq, BitVec.toInt_eq_toNat_bmod]
  rw [Int.bmod_mul_bmod]
  congr 1
theorem own_ushr (x : Int32) (k : Nat) (hk : k < 32) (h0 : 0 < k) : (XT.ushr x (Int32.ofNat k)).toInt = (x.toInt % 4294967296) / (2 ^ k : Nat) := by
  have h : (XT.ushr x (Int32.ofNat k)).toBitVec.toNat = x.toBitVec.toNat / 2 ^ k := by
    show (x.toBitVec >>> ((Int32.ofNat k &&& 31).toUInt32.toBitVec % 32)).toNat = _
    rw [BitVec.ushiftRight_eq', BitVec.toNat_ushiftRight, BitVec.toNat_umod, own_amtU ⟨k, hk⟩, Nat.shiftRight_eq_div_pow]
    show _ / 2 ^ (k % 32) = _
    rw [Nat.mod_eq_of_lt hk]
  have h1 := x.toBitVec.isLt
  have h2 : x.toBitVec.toNat / 2 ^ k ≤ x.toBitVec.toNat / 2 ^ 1 := Nat.div_le_div_left (Nat.pow_le_pow_right (by decide) h0) (by decide)
  rw [own_toint _ (by omega), h, ← own_tonat]; rfl
theorem own_ushr0 (x : Int32) (k : Nat) (hk : k < 32) (h0 : 0 ≤ x.toInt) : (XT.ushr x (Int32.ofNat k)).toInt = x.toInt / (2 ^ k : Nat) := by
  have h1 := x.toInt_lt
  by_cases q : k = 0
  · subst q
    have : XT.ushr x (Int32.ofNat 0) = x := by
      apply Int32.toBitVec_inj.mp
      apply BitVec.eq_of_toNat_eq
      show (x.toBitVec >>> ((Int32.ofNat 0 &&& 31).toUInt32.toBitVec % 32)).toNat = _
      rw [BitVec.ushiftRight_eq', BitVec.toNat_ushiftRight, BitVec.toNat_umod, own_amtU ⟨0, hk⟩]; rfl
    rw [this]; simp
  · rw [own_ushr x k hk (by omega), Int.emod_eq_of_lt h0 (by omega)]
theorem own_if {c : Prop} [Decidable c] {α : Type} {a b r : α} (h1 : c → a = r) (h2 : ¬ c → b = r) : (if c then a else b) = r := by
  by_cases h : c
  · rw [if_pos h]; exact h1 h
  · rw [if_neg h]; exact h2 h
theorem own_maskJ (x : Int64) (k : Nat) (hk : k ≤ 63) (m : Int64) (hm : m = Int64.ofNat (2 ^ k - 1)) : (x &&& m).toInt = x.toInt % (2 ^ k : Nat) := by
  subst hm
  have h1 : (x &&& Int64.ofNat (2 ^ k - 1)).toBitVec.toNat = x.toBitVec.toNat % 2 ^ k := by
    rw [Int64.toBitVec_and, BitVec.toNat_and]
    have : (Int64.ofNat (2 ^ k - 1)).toBitVec.toNat = 2 ^ k - 1 := by
      show (BitVec.ofNat 64 (2 ^ k - 1)).toNat = _
      rw [BitVec.toNat_ofNat]
      apply Nat.mod_eq_of_lt
      have : 2 ^ k ≤ 2 ^ 63 := Nat.pow_le_pow_right (by decide) hk
      omega
    rw [this, Nat.and_two_pow_sub_one_eq_mod]
  have hp : 2 ^ k ≤ 2 ^ 63 := Nat.pow_le_pow_right (by decide) hk
  have hpos : 0 < 2 ^ k := Nat.two_pow_pos k
  have hlt := Nat.mod_lt x.toBitVec.toNat hpos
  show (x &&& Int64.ofNat (2 ^ k - 1)).toBitVec.toInt = x.toBitVec.toInt % _
  rw [BitVec.toInt_eq_toNat_cond, h1, if_pos (by omega), BitVec.toInt_eq_toNat_cond]
  split
  · simp
  · have hd : (2 ^ k : Nat) ∣ 2 ^ 64 := Nat.pow_dvd_pow 2 (by omega)
    obtain ⟨q, hq⟩ := hd
    rw [Int.sub_emod, show ((2 ^ 64 : Nat) : Int) % (2 ^ k : Nat) = 0 by rw [hq]; simp]
    simp
theorem own_amtJ : ∀ k : Fin 64, ((Int32.ofNat k.val).toInt64.toUInt64 &&& Int64.toUInt64 63).toBitVec.toNat = k.val := by decide +kernel
theorem own_ushrL (x : Int64) (k : Nat) (hk : k < 64) (h0 : 0 < k) : (XT.ushrL x (Int32.ofNat k)).toInt = (x.toInt % 18446744073709551616) / (2 ^ k : Nat) := by
  have h : (XT.ushrL x (Int32.ofNat k)).toBitVec.toNat = x.toBitVec.toNat / 2 ^ k := by
    show (x.toBitVec >>> (((Int32.ofNat k).toInt64.toUInt64 &&& Int64.toUInt64 63).toBitVec % 64)).toNat = _
    rw [BitVec.ushiftRight_eq', BitVec.toNat_ushiftRight, BitVec.toNat_umod, own_amtJ ⟨k, hk⟩, Nat.shiftRight_eq_div_pow]
    show _ / 2 ^ (k % 64) = _
    rw [Nat.mod_eq_of_lt hk]
  have h1 := x.toBitVec.isLt
  have h2 : x.toBitVec.toNat / 2 ^ k ≤ x.toBitVec.toNat / 2 ^ 1 := Nat.div_le_div_left (Nat.pow_le_pow_right (by decide) h0) (by decide)
  rw [own_tointJ _ (by omega), h, ← own_tonatJ]; rfl

def own_cut (d S : Int64) : Option Int32 := if ((999999999 : Int64) / S) < d then some (-1 : Int32) else some (((d * S)).toInt32)
theorem own_fin (d S : Int64) (k c : Int) (hS : S.toInt = k) (hc : ((999999999 : Int64) / S).toInt = c) (hk : 1 ≤ k ∧ k ≤ 100000000) (h1 : c * k ≤ 999999999) (h2 : 999999999 < (c + 1) * k) (hd : 0 ≤ d.toInt) :
    own_cut d S = (if (999999999 : Int64) < d then some (-1 : Int32) else if (999999999 : Int64) < (d * S) then some (-1 : Int32) else some (((d * S)).toInt32)) := by
  unfold own_cut
  have l9 : (999999999 : Int64).toInt = 999999999 := rfl
  simp only [Int64.lt_iff_toInt_lt, hc, l9]
  by_cases a : 999999999 < d.toInt
  · rw [if_pos a, if_pos]
    have : c * 1 ≤ c * k := by
      by_cases q : 0 ≤ c
      · exact Int.mul_le_mul_of_nonneg_left hk.1 q
      · have : (c + 1) * k ≤ 0 := Int.mul_nonpos_of_nonpos_of_nonneg (by omega) (by omega)
        omega
    omega
  · rw [if_neg a]
    have b1 : 0 ≤ d.toInt * k := Int.mul_nonneg hd (by omega)
    have b2 : d.toInt * k ≤ 999999999 * 100000000 := Int.mul_le_mul (by omega) hk.2 (by omega) (by omega)
    have e : (d * S).toInt = d.toInt * k := by
      rw [Int64.toInt_mul, hS]; exact Int.bmod_eq_of_le (by omega) (by omega)
    rw [e]
    by_cases q : c < d.toInt
    · have : (c + 1) * k ≤ d.toInt * k := Int.mul_le_mul_of_nonneg_right (by omega) (by omega)
      rw [if_pos q, if_pos (by omega)]
    · have : d.toInt * k ≤ c * k := Int.mul_le_mul_of_nonneg_right (by omega) (by omega)
      rw [if_neg q, if_neg (by omega)]
theorem own_low : ∀ m : Fin 8, ∃ S : Int64, ∃ k c : Int, f3_0 (Int32.ofNat m.val) = some S ∧ S.toInt = k ∧ ((999999999 : Int64) / S).toInt = c ∧ (1 ≤ k ∧ k ≤ 100000000) ∧ c * k ≤ 999999999 ∧ 999999999 < (c + 1) * k ∧
    ∀ d, (if Int32.ofNat m.val = 0 then f1_25 d 0 else f1_25 d (Int32.ofNat m.val + 1)) = own_cut d S := by
  intro m
  match m with
  | ⟨0, _⟩ => exact ⟨1, 1, 999999999, rfl, rfl, rfl, by decide, by decide, by decide, fun d => rfl⟩
  | ⟨1, _⟩ => exact ⟨100, 100, 9999999, rfl, rfl, rfl, by decide, by decide, by decide, fun d => rfl⟩
  | ⟨2, _⟩ => exact ⟨1000, 1000, 999999, rfl, rfl, rfl, by decide, by decide, by decide, fun d => rfl⟩
  | ⟨3, _⟩ => exact ⟨10000, 10000, 99999, rfl, rfl, rfl, by decide, by decide, by decide, fun d => rfl⟩
  | ⟨4, _⟩ => exact ⟨100000, 100000, 9999, rfl, rfl, rfl, by decide, by decide, by decide, fun d => rfl⟩
  | ⟨5, _⟩ => exact ⟨1000000, 1000000, 999, rfl, rfl, rfl, by decide, by decide, by decide, fun d => rfl⟩
  | ⟨6, _⟩ => exact ⟨10000000, 10000000, 99, rfl, rfl, rfl, by decide, by decide, by decide, fun d => rfl⟩
  | ⟨7, _⟩ => exact ⟨100000000, 100000000, 9, rfl, rfl, rfl, by decide, by decide, by decide, fun d => rfl⟩
theorem own_tot (d S : Int64) : ∃ v, own_cut d S = some v := by
  unfold own_cut; split <;> exact ⟨_, rfl⟩
theorem own_at (x : Int64) : (f1_0 x).bind (fun r => (f2_0 x).bind fun q => if r = q then some (1 : Int32) else some 0) = some 1 := by
  have m := own_maskJ x 3 (by decide) 7 rfl
  have hd := own_ushrL x 3 (by decide) (by decide)
  change (XT.ushrL x 3).toInt = _ at hd
  have hl : ((x &&& 7).toInt32).toInt = x.toInt % 8 := by
    rw [Int64.toInt_toInt32, m]; exact Int.bmod_eq_of_le (by omega) (by omega)
  obtain ⟨n, hn⟩ := own_fin32 ((x &&& 7).toInt32) 8 (by omega) (by omega)
  obtain ⟨S, k, c, e1, e2, e3, e4, e5, e6, e7⟩ := own_low n
  unfold f1_0 f2_0
  rw [hn, e7, e1, Option.bind_some, ← own_fin _ S k c e2 e3 e4 e5 e6 (by omega)]
  obtain ⟨v, hv⟩ := own_tot (XT.ushrL x 3) S
  rw [hv, Option.bind_some, Option.bind_some, if_pos rfl]
theorem own_law (x0 : Int64) (x2 : Int32) : f0_0 x0 x2 = some 1 := own_at _

set_option maxRecDepth 65536 in
set_option maxHeartbeats 40000000 in
theorem comes_1 {Post : Tables → Env → Array Value → State → Outcome → State → Prop} (hpost : ∀ tb e args s v u, (limb_1_1.after args s (.returned v) u = true ∧ limb_1_2.after args s (.returned v) u = true ∧ True) → FrameEnd s (.returned v) u (Jvm.fieldLocs frame_1_writes args s ++ Jvm.arrayLocs frame_1_arrays args s ++ Jvm.staticLocs frame_1_statics s) 0 0 → Post tb e args s (.returned v) u) :
    ArmFor flags0 classFile x code maxLocals ret World_1 tables_1 room_1 Calls_1 rest_1 Pre_1 Post := by
  intro l hfl _ _ p e ha hc hk s m args below hf hA hF happ hP
  obtain ⟨hcalls, hrest, hpre⟩ := hP
  obtain ⟨-, -, -, hnamed, -, -, -, hat⟩ := (Spec.applies_iff hf).mp happ
  obtain ⟨hg, hn⟩ := and_e (Cond.before_iff.mp (show (Jvm.Cond.and given_1 narrow_1).before args s = true from hpre))
  obtain ⟨hcnt, q0⟩ := and_e hg
  obtain ⟨p0, q1⟩ := and_e q0
  obtain ⟨w0, w1, rfl⟩ : ∃ w0 w1 : Value, args = #[w0, w1] := by
    have hs : args.size = 2 := by simpa [Cond.value, given_1] using hcnt
    obtain ⟨L⟩ := args
    match L, hs with
    | [w0, w1], _ => exact ⟨w0, w1, rfl⟩
  have hw := fun d (hd : d ∈ tables_1) => atoms_spec (ws := Jvm.Cond.code x code maxLocals ret :: tables_1) hat d (List.mem_cons_of_mem _ hd)
  obtain ⟨i0, c0⟩ := isL_v p0
  obtain rfl : w0 = (.long i0) := Option.some.inj c0
  obtain ⟨i1, c1⟩ := is_v q1
  obtain rfl : w1 = (.int i1) := Option.some.inj c1
  obtain ⟨n, o, h1, h2, h3, _, L, rfl, ⟨rfl, N⟩, hq⟩ := rm0 l s _ hw tables_1 i0 i1 s.heap s.heap.size (Nat.le_refl _) 1 (own_law i0 i1) p e ha hc hk s m _ below hf ((Spec.applies_iff_loose hf).mp happ).1 ⟨rfl, State.Warmed39.refl s, rfl⟩ trivial
  refine ⟨n, _, h1, h2, h3, hpost _ _ _ _ _ _ ⟨Cond.after_iff.mpr rfl, Cond.after_iff.mpr (eq_i res_at (Term.int_eval (1)) rfl), trivial⟩ ⟨hq.1, hq.2.1, (hq.2.2.sift fun y hy => Or.inr (N y hy)).mono (by decide) (by decide)⟩⟩
theorem main_1_1 : Claimed_1_1 := comes_1 fun _ _ _ _ _ _ h hF => ⟨h.1, hF⟩
theorem main_1_2 : Claimed_1_2 := comes_1 fun _ _ _ _ _ _ h hF => ⟨h.2.1, hF⟩
end Jvm.Pilot.@@N@@
namespace Jvm.Pilot.@@N@@
open Jvm Jvm.ClassFile Sem Op Lib Jvm.Free Jvm.Stand Jvm.Pilot.@@N@@.Jvm.D
/-! MADE BY PROGRAM (witnessworld.py) out of the Statement's table words and the real class files: 9 classes; the members and pool entries that the words name. The judged class is class 1, her method 3. -/
namespace start1
open Jvm.ClassFile
def u (s : String) : CpInfo := .utf8 (stringToUtf16 s)
/-- a pool by its gaps: so many unusable entries, then the entry; so many at the end -/
def gap : Nat → List CpInfo → List CpInfo
  | 0, r => r
  | n + 1, r => .unusable :: gap n r
def poolList (es : List (Nat × CpInfo)) (last : Nat) : List CpInfo := es.foldr (fun e r => gap e.1 (e.2 :: r)) (gap last [])
def pool (es : List (Nat × CpInfo)) (last : Nat) : Array CpInfo := ⟨poolList es last⟩
def fileOf (pool : Array CpInfo) (this : Nat) (attrs : Array Attribute := #[]) (ms : Array MethodInfo := #[]) (fl : Nat := 33) (sup : Nat := 0) (ifs : Array Nat := #[]) (fds : Array FieldInfo := #[]) : ClassFile where
  minorVersion := 0
  majorVersion := 65
  constantPool := pool
  accessFlags := fl
  thisClass := this
  superClass := sup
  interfaces := ifs
  fields := fds
  methods := ms
  attributes := attrs
def plain (name : String) (sup : Option ClassId) : Class where
  name := name
  kind := .ordinary
  loader := none
  accessFlags := 33
  super := sup
  interfaces := #[]
  cf := none
  fields := #[]
  methods := #[]
  instanceTypes := #[]
  staticTypes := #[]
  resolved := #[]
  callSites := []
  init := .initialized
  statics := none
  mirror := none

def pool0 : Array CpInfo := pool [(5, u "<init>"), (0, u "()V"), (1, .class_ 10), (1, u "java/lang/Object")] 113

def k0m0 : Method := { name := "<init>", desc := "()V", sig := { parameters := [], returnType := none }, accessFlags := 1, code := none }
/-- java/lang/Object -/
def k0 : Class := { plain "java/lang/Object" none with
  accessFlags := 33
  interfaces := #[]
  cf := some (fileOf pool0 8 #[] #[{ accessFlags := 1, nameIndex := 5, descriptorIndex := 6, attributes := #[] }] 33 0 #[] #[])
  fields := #[]
  methods := #[k0m0]
  instanceTypes := #[]
  staticTypes := #[]
  resolved := Array.replicate 124 none
  statics := none }

def pool1 : Array CpInfo := pool [(2, .class_ 4), (1, u "java/lang/Object"), (0, u "<init>"), (0, u "()V"), (0, .long 100), (1, .long 1000), (1, .long 10000), (1, .long 100000), (1, .long 1000000), (1, .long 10000000), (1, .long 100000000), (1, .long 7), (1, .methodref 24 25), (0, .class_ 26), (0, .nameAndType 27 28), (0, u "com/example/stripewright/stripewright/TimestampsNanosPinLaw"), (0, u "scaleOf"), (0, u "(I)J"), (0, .long 999999999), (1, .methodref 32 33), (0, .class_ 34), (0, .nameAndType 35 36), (0, u "com/example/stripewright/stripewright/Timestamps"), (0, u "nanos"), (0, u "(J)I"), (0, .methodref 24 38), (0, .nameAndType 39 36), (0, u "expected"), (3, u "law"), (0, u "(JI)Z")] 2

def k1m0 : Method := { name := "<init>", desc := "()V", sig := { parameters := [], returnType := none }, accessFlags := 2, code := none }
def k1c1 : Code := { maxStack := 2, maxLocals := 1, code := method_2_code, exceptionTable := #[], attributes := #[] }
def k1m1 : Method := { name := "scaleOf", desc := "(I)J", sig := { parameters := [.int], returnType := some .long }, accessFlags := 10, code := some k1c1 }
def k1c2 : Code := { maxStack := 4, maxLocals := 8, code := method_3_code, exceptionTable := #[], attributes := #[] }
def k1m2 : Method := { name := "expected", desc := "(J)I", sig := { parameters := [.long], returnType := some .int }, accessFlags := 10, code := some k1c2 }
def k1c3 : Code := { maxStack := 4, maxLocals := 5, code := code, exceptionTable := #[], attributes := #[] }
def k1m3 : Method := { name := "law", desc := "(JI)Z", sig := { parameters := [.long, .int], returnType := some .boolean }, accessFlags := 9, code := some k1c3 }
/-- com/example/stripewright/stripewright/TimestampsNanosPinLaw -/
def k1 : Class := { plain "com/example/stripewright/stripewright/TimestampsNanosPinLaw" (some 0) with
  accessFlags := 49
  interfaces := #[]
  cf := some (fileOf pool1 24 #[] #[{ accessFlags := 2, nameIndex := 5, descriptorIndex := 6, attributes := #[] }, { accessFlags := 10, nameIndex := 27, descriptorIndex := 28, attributes := #[] }, { accessFlags := 10, nameIndex := 39, descriptorIndex := 36, attributes := #[] }, { accessFlags := 9, nameIndex := 43, descriptorIndex := 44, attributes := #[] }] 49 2 #[] #[])
  fields := #[]
  methods := #[k1m0, k1m1, k1m2, k1m3]
  instanceTypes := #[]
  staticTypes := #[]
  resolved := Array.replicate 47 none
  statics := none }

def pool2 : Array CpInfo := pool [(2, .class_ 4), (1, u "java/lang/Object"), (0, u "<init>"), (0, u "()V"), (0, .class_ 8), (0, u "com/example/stripewright/stripewright/Timestamps"), (5, u "MAX_SECONDS"), (0, u "J"), (6, u "MIN_SECONDS"), (3, .long 7), (1, .long 10), (1, .long 999999999), (42, u "WRITER_TIME_ZONE"), (0, u "Ljava/lang/String;"), (2, u "BASE_SECONDS"), (0, u "MAX_UNADJUSTED_NANOS"), (0, u "I"), (0, u "MAX_NANOS"), (1, u "MIN_DROPPED_ZEROS"), (9, u "nanos"), (0, u "(J)I")] 5

def k2m0 : Method := { name := "<init>", desc := "()V", sig := { parameters := [], returnType := none }, accessFlags := 2, code := none }
def k2c1 : Code := { maxStack := 6, maxLocals := 9, code := prog_53_method_7_code, exceptionTable := #[], attributes := #[] }
def k2m1 : Method := { name := "nanos", desc := "(J)I", sig := { parameters := [.long], returnType := some .int }, accessFlags := 8, code := some k2c1 }
/-- com/example/stripewright/stripewright/Timestamps -/
def k2 : Class := { plain "com/example/stripewright/stripewright/Timestamps" (some 0) with
  accessFlags := 48
  interfaces := #[]
  cf := some (fileOf pool2 7 #[] #[{ accessFlags := 2, nameIndex := 5, descriptorIndex := 6, attributes := #[] }, { accessFlags := 8, nameIndex := 92, descriptorIndex := 93, attributes := #[] }] 48 2 #[] #[{ accessFlags := 24, nameIndex := 73, descriptorIndex := 74, attributes := #[] }, { accessFlags := 26, nameIndex := 77, descriptorIndex := 15, attributes := #[] }, { accessFlags := 26, nameIndex := 22, descriptorIndex := 15, attributes := #[] }, { accessFlags := 26, nameIndex := 14, descriptorIndex := 15, attributes := #[] }, { accessFlags := 26, nameIndex := 78, descriptorIndex := 79, attributes := #[] }, { accessFlags := 26, nameIndex := 80, descriptorIndex := 79, attributes := #[] }, { accessFlags := 26, nameIndex := 82, descriptorIndex := 79, attributes := #[] }])
  fields := #[{ name := "WRITER_TIME_ZONE", type := (.object "java/lang/String"), accessFlags := 24, slot := 0, constantValue := 0 }, { name := "BASE_SECONDS", type := .long, accessFlags := 26, slot := 1, constantValue := 0 }, { name := "MIN_SECONDS", type := .long, accessFlags := 26, slot := 2, constantValue := 0 }, { name := "MAX_SECONDS", type := .long, accessFlags := 26, slot := 3, constantValue := 0 }, { name := "MAX_UNADJUSTED_NANOS", type := .int, accessFlags := 26, slot := 4, constantValue := 0 }, { name := "MAX_NANOS", type := .int, accessFlags := 26, slot := 5, constantValue := 0 }, { name := "MIN_DROPPED_ZEROS", type := .int, accessFlags := 26, slot := 6, constantValue := 0 }]
  methods := #[k2m0, k2m1]
  instanceTypes := #[]
  staticTypes := #[(.object "java/lang/String"), .long, .long, .long, .int, .int, .int]
  resolved := Array.replicate 99 none
  statics := none }

def pool3 : Array CpInfo := pool [(1, u "java/lang/Cloneable"), (0, .class_ 1), (0, u "java/lang/Object"), (0, .class_ 3)] 3

/-- java/lang/Cloneable -/
def k3 : Class := { plain "java/lang/Cloneable" (some 0) with
  accessFlags := 1537
  interfaces := #[]
  cf := some (fileOf pool3 2 #[] #[] 1537 4 #[] #[])
  fields := #[]
  methods := #[]
  instanceTypes := #[]
  staticTypes := #[]
  resolved := Array.replicate 8 none
  statics := none }

def pool4 : Array CpInfo := pool [(1, u "java/io/Serializable"), (0, .class_ 1), (0, u "java/lang/Object"), (0, .class_ 3)] 3

/-- java/io/Serializable -/
def k4 : Class := { plain "java/io/Serializable" (some 0) with
  accessFlags := 1537
  interfaces := #[]
  cf := some (fileOf pool4 2 #[] #[] 1537 4 #[] #[])
  fields := #[]
  methods := #[]
  instanceTypes := #[]
  staticTypes := #[]
  resolved := Array.replicate 8 none
  statics := none }

/-- the primitive byte -/
def k5 : Class := { plain "byte" none with kind := .primitive 'B', accessFlags := 0x411 }
/-- [B -/
def k6 : Class := { plain "[B" (some 0) with kind := .array 5 .byte, interfaces := #[3, 4], accessFlags := 1041 }

/-- the primitive int -/
def k7 : Class := { plain "int" none with kind := .primitive 'I', accessFlags := 0x411 }
/-- [I -/
def k8 : Class := { plain "[I" (some 0) with kind := .array 7 .int, interfaces := #[3, 4], accessFlags := 1041 }

def heap : Heap := #[]
def classes : Array Class := #[k0, k1, k2, k3, k4, k5, k6, k7, k8]
def interned : List (Array UInt16 × Addr) := []
def slotsUsed : Nat := 0
def theMethod : MethodId := ⟨1, 3⟩
def args0 : Array Value := #[.long 5, .int 5]
def aboutOver (below : List Frame) : State where
  vm := { classes := classes, interned := interned.toArray }
  heap := heap
  slotsUsed := slotsUsed
  threads := #[{ frames := .invoking theMethod args0 :: below }]
def below0 : List Frame := [.native { method := ⟨0, 0⟩, args := #[] }]
def about1 : State := aboutOver below0
def p0 : Program := .bare "" "" ""
def e0 : Env := launch0.env 0 0 0
theorem w_frames : about1.frames = Frame.invoking theMethod args0 :: below0 := rfl
set_option maxRecDepth 65536 in
theorem w_args : argsFit about1.vm theMethod args0 = true := by decide +kernel
set_option maxRecDepth 65536 in
theorem w_heap : heapFits about1 = true := by decide +kernel
set_option maxRecDepth 65536 in
theorem w_runnable : about1.curStatus? = some .runnable := by decide +kernel
set_option maxRecDepth 65536 in
theorem w_alone : about1.alone = true := by decide +kernel
set_option maxRecDepth 65536 in
theorem w_named : about1.methodNamed? x = some theMethod := by decide +kernel
set_option maxRecDepth 65536 in
theorem w_hears : about1.hears theMethod below0 = true := by decide +kernel
set_option maxRecDepth 65536 in
theorem w_ripe : about1.ripe theMethod args0 below0 = true := by decide +kernel
theorem w_running : about1.status = .running := rfl
set_option maxRecDepth 65536 in
theorem w_room : about1.hasRoom e0.platform room_1 = true :=
  launch0.hasRoom_least _ room_1 (by decide +kernel) (by decide +kernel) (by decide +kernel) (by decide +kernel) (by decide +kernel) (by decide +kernel)
theorem allAtoms_all (ts : List Jvm.Cond) (a : Array Jvm.Value) (st : Jvm.State) : (allAtoms ts).before a st = ts.all (fun c => c.before a st) := by
  induction ts with
  | nil => rfl
  | cons c t ih =>
    show (Jvm.Cond.and c (allAtoms t)).before a st = _
    rw [Jvm.Cond.before_and, ih, List.all_cons]
def words1 : List Jvm.Cond := Jvm.Cond.code x code maxLocals ret :: tables_1
/-- a 'code' word, met by the world's own term for the bytes: nothing is compared byte by byte -/
theorem code_word {y : MethodName} {bytes : ByteArray} {mx : Nat} {rt : Option FieldType} {a : Array Value} {s : State} {m : MethodId} {meth : Method} {c : Code} (h1 : s.methodNamed? y = some m) (h2 : s.vm.method? m = some meth) (h3 : meth.code = some c) (h4 : c.code = bytes)
    (h5 : (c.maxLocals == mx && c.exceptionTable.isEmpty && decide (c.maxStack ≤ mostOperands) && decide (meth.sig.returnType = rt) && !meth.locks && decide (parseMethodDescriptor y.desc = some meth.sig)) = true) : (Jvm.Cond.code y bytes mx rt).before a s = true := by
  simp only [Bool.and_eq_true, beq_iff_eq, Bool.not_eq_true', decide_eq_true_eq] at h5
  obtain ⟨⟨⟨⟨⟨g1, g2⟩, g3⟩, g4⟩, g5⟩, g6⟩ := h5
  simp [Cond.before, Cond.holds, Cond.value, h1, h2, h3, h4, g1, g2, g3, g4, g5, g6]
def isCode : Jvm.Cond → Bool
  | .code _ _ _ _ => true
  | _ => false
theorem all_split {L : List Jvm.Cond} {P : Jvm.Cond → Bool} (h1 : L.all (fun c => isCode c || P c) = true) (h2 : ∀ c ∈ L.filter isCode, P c = true) : L.all P = true := by
  refine List.all_eq_true.mpr fun c hc => ?_
  have h := List.all_eq_true.mp h1 c hc
  rcases Bool.eq_false_or_eq_true (isCode c) with hi | hi
  · exact h2 c (List.mem_filter.mpr ⟨hc, hi⟩)
  · simpa [hi] using h
set_option maxRecDepth 65536 in
theorem w_c0 : (Jvm.Cond.code x code maxLocals ret).before args0 about1 = true := code_word (m := ⟨1, 3⟩) (meth := k1m3) (c := k1c3) (by decide +kernel) rfl rfl rfl (by decide +kernel)
set_option maxRecDepth 65536 in
theorem w_c1 : (Jvm.Cond.code ({ cls := "com/example/stripewright/stripewright/Timestamps", name := "nanos", desc := "(J)I" } : Jvm.MethodName) prog_53_method_7_code (9 : Nat) (Option.some Jvm.ClassFile.FieldType.int)).before args0 about1 = true := code_word (m := ⟨2, 1⟩) (meth := k2m1) (c := k2c1) (by decide +kernel) rfl rfl rfl (by decide +kernel)
set_option maxRecDepth 65536 in
theorem w_c2 : (Jvm.Cond.code ({ cls := "com/example/stripewright/stripewright/TimestampsNanosPinLaw", name := "expected", desc := "(J)I" } : Jvm.MethodName) method_3_code (8 : Nat) (Option.some Jvm.ClassFile.FieldType.int)).before args0 about1 = true := code_word (m := ⟨1, 2⟩) (meth := k1m2) (c := k1c2) (by decide +kernel) rfl rfl rfl (by decide +kernel)
set_option maxRecDepth 65536 in
theorem w_c3 : (Jvm.Cond.code ({ cls := "com/example/stripewright/stripewright/TimestampsNanosPinLaw", name := "scaleOf", desc := "(I)J" } : Jvm.MethodName) method_2_code (1 : Nat) (Option.some Jvm.ClassFile.FieldType.long)).before args0 about1 = true := code_word (m := ⟨1, 1⟩) (meth := k1m1) (c := k1c1) (by decide +kernel) rfl rfl rfl (by decide +kernel)
def codes1 : List Jvm.Cond := [Jvm.Cond.code x code maxLocals ret, Jvm.Cond.code ({ cls := "com/example/stripewright/stripewright/Timestamps", name := "nanos", desc := "(J)I" } : Jvm.MethodName) prog_53_method_7_code (9 : Nat) (Option.some Jvm.ClassFile.FieldType.int), Jvm.Cond.code ({ cls := "com/example/stripewright/stripewright/TimestampsNanosPinLaw", name := "expected", desc := "(J)I" } : Jvm.MethodName) method_3_code (8 : Nat) (Option.some Jvm.ClassFile.FieldType.int), Jvm.Cond.code ({ cls := "com/example/stripewright/stripewright/TimestampsNanosPinLaw", name := "scaleOf", desc := "(I)J" } : Jvm.MethodName) method_2_code (1 : Nat) (Option.some Jvm.ClassFile.FieldType.long)]
set_option maxRecDepth 65536 in
theorem codes_eq : words1.filter isCode = codes1 := rfl
theorem w_codes : ∀ c ∈ words1.filter isCode, c.before args0 about1 = true := by
  rw [codes_eq]
  intro c hc
  simp only [codes1, List.mem_cons, List.not_mem_nil, or_false] at hc
  rcases hc with rfl | rfl | rfl | rfl
  · exact w_c0
  · exact w_c1
  · exact w_c2
  · exact w_c3
set_option maxRecDepth 65536 in
theorem w_t1 : words1.all (fun c => isCode c || c.before args0 about1) = true := by decide +kernel
theorem w_tables : (allAtoms (Jvm.Cond.code x code maxLocals ret :: tables_1)).before args0 about1 = true := by
  rw [allAtoms_all]
  show words1.all (fun c => c.before args0 about1) = true
  refine all_split ?_ w_codes
  rw [w_t1]
set_option maxRecDepth 65536 in
theorem w_case : (Jvm.Cond.and given_1 narrow_1).before args0 about1 = true := by decide +kernel
theorem w_applies : (headSpec (Jvm.Cond.code x code maxLocals ret :: tables_1) room_1).applies x e0.platform about1 = true :=
  (Spec.applies_iff w_frames).mpr ⟨w_running, w_runnable, w_alone, w_named, w_hears, w_ripe, w_room, w_tables⟩
theorem atStart : AtStart classFile x code maxLocals ret World_1 tables_1 room_1 Calls_1 rest_1 Pre_1 launch0 p0 e0 about1 theMethod args0 below0 :=
  ⟨lists_1, trivial, launch0.admits_env _ _ _, launch0.least_env, fairChoices_fair.cas, fairChoices_fair.clock, w_frames, w_args, w_heap, w_applies, trivial, trivial, w_case⟩
end start1
theorem witness_1 : WitnessClaimed_1 := ⟨start1.p0, start1.e0, start1.about1, start1.theMethod, start1.args0, start1.below0, start1.atStart⟩
end Jvm.Pilot.@@N@@
