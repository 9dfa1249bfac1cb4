import JvmDerived
import JvmDerived.Pilot.@@N@@Statement
import JvmDerived.Pilot.@@N@@Code
set_option linter.unusedVariables false
set_option linter.unusedSimpArgs false
@@BLOCK:NumsL.lean.txt@@
namespace Jvm.OwnKit
open Jvm Sem ClassFile Op Lib Jvm.Free Jvm.Stand Jvm.LawKit Jvm.RoadKit Bundle
/-- a body: its method, its bytes, max_locals, what it returns, its room -/
abbrev oBd : Type := MethodName × ByteArray × Nat × Option FieldType × Room
abbrev oBd.y (b : oBd) : MethodName := b.1
abbrev oBd.bytes (b : oBd) : ByteArray := b.2.1
abbrev oBd.maxL (b : oBd) : Nat := b.2.2.1
abbrev oBd.ret (b : oBd) : Option FieldType := b.2.2.2.1
abbrev oBd.R (b : oBd) : Room := b.2.2.2.2
/-- an invocation: program, environment, its state, method, arguments, the frames below, the method's record, its code -/
abbrev oWd : Type := Program × Env × State × MethodId × Array Value × List Frame × Method × Code
/-- where a walk stands: T its state, h its heap, k cells and n slots made; all that was written lies at or above n0 -/
def oPos (l : Launch) (Z : State) (n0 : Nat) (w : oWd) (b : oBd) (T : State) (h : Heap) (k n : Nat) : Prop :=
  w.1.tables.exec = Jvm.exec ∧ Z.Warmed39 w.2.2.1.vm ∧ w.2.2.1.vm.findClass b.y.cls = some w.2.2.2.1.cls ∧ w.2.2.2.2.2.2.2.code = b.bytes ∧ w.2.2.2.2.2.2.2.maxLocals = b.maxL ∧ w.2.2.2.2.2.2.1.sig.returnType = b.ret ∧ w.2.2.2.2.2.2.1.locks = false ∧ w.2.2.2.2.2.2.1.name = b.y.name ∧ T.heap = h ∧
    ∃ locs, Stand w.1 l w.2.1 b.R w.2.2.1 w.2.2.2.1 w.2.2.2.2.1 w.2.2.2.2.2.1 w.2.2.2.2.2.2.1 w.2.2.2.2.2.2.2 T locs k n ∧ Fr n0 locs
/-- from here the invocation comes to its end, and Q holds of what it returns and of the heap -/
def oFin (w : oWd) (b : oBd) (n0 : Nat) (Q : Option Value → Heap → Prop) (T : State) (pc : Nat) (Ls : Array Slot) (st : List Value) : Prop :=
  ∃ s₂ o, Steps w.1.tables w.2.1 w.2.2.2.2.2.1 (T.setTop (mkF w.2.2.2.1 pc Ls st)) s₂ ∧ s₂.status = .running ∧ Ended s₂ w.2.2.2.2.2.1 o ∧ ∃ v L, o = .returned v ∧ (Q v s₂.heap ∧ Fr n0 L) ∧ FrameEnd w.2.2.1 o s₂ L b.R.cells b.R.slots
/-- a body's contract: called with the arguments as' at the heap h it returns, and Q holds -/
def oMet (l : Launch) (b : oBd) (ws : List Jvm.Cond) (Z : State) (n0 : Nat) (as' : Array Value) (h : Heap) (Q : Option Value → Heap → Prop) : Prop :=
  MetFree l b.y (head1 (Jvm.Cond.code b.y b.bytes b.maxL b.ret :: ws) b.R) (fun a U => a = as' ∧ Z.Warmed39 U.vm ∧ U.heap = h) (fun _ _ _ _ _ => True) (fun _ U o U' => ∃ v L, o = .returned v ∧ (Q v U'.heap ∧ Fr n0 L) ∧ FrameEnd U o U' L b.R.cells b.R.slots)
section Steps
variable {l : Launch} {Z : State} {n0 : Nat} {w : oWd} {b : oBd} {T T' : State} {h : Heap} {k n pc q : Nat} {Ls Ls' : Array Slot} {st st' : List Value} {Q : Option Value → Heap → Prop} {a0 : Array Value}
theorem o_go {pc' : Nat} (hh : ∀ t, Steps w.1.tables w.2.1 w.2.2.2.2.2.1 (T'.setTop (mkF w.2.2.2.1 pc' Ls' st')) t → Steps w.1.tables w.2.1 w.2.2.2.2.2.1 (T.setTop (mkF w.2.2.2.1 pc Ls st)) t) (K : oFin w b n0 Q T' pc' Ls' st') : oFin w b n0 Q T pc Ls st := by
  obtain ⟨s₂, o, h1, r⟩ := K
  exact ⟨s₂, o, hh _ h1, r⟩
theorem o_enter {ws : List Jvm.Cond} {as' : Array Value} (hp : plainFor b.y = true) (hef : ∀ m : MethodId, entryFrame m as' b.maxL = mkF m 0 Ls []) (body : ∀ (w : oWd) (T : State), oPos l Z n0 w b T h 0 0 → oFin w b n0 Q T 0 Ls []) : oMet l b ws Z n0 as' h Q := by
  refine MetFree.of_bodySF hp hisR ?_
  intro p e s m args below meth c s₁ Bd hml0 hP hK
  obtain ⟨rfl, hZ, hh⟩ := hP
  have e0 : s₁.heap = h := by rw [← hh, Bd.state]; rfl
  obtain ⟨s₂, o, h1, r⟩ := body (p, e, s, m, args, below, meth, c) s₁ ⟨Bd.exec, hZ, findClass_of_methodNamed Bd.named, Bd.bytes, hml0, Bd.returns, Bd.notSynchronized, (name_of_methodNamed Bd.named Bd.method).1, e0, [], Stand.of_body Bd, Fr.nil n0⟩
  exact ⟨s₂, o, castTop (hef m) h1, r⟩

theorem o_aloadN (A : oPos l Z n0 w b T h k n) {j : Fin 4} {v : Value} (hd : decode b.bytes pc = .ok (.aload_n j, 1)) (hl : Ls[j.val]? = some (.val v)) (hv : v.isRef = true) (hq : pc + 1 = q) (K : oFin w b n0 Q T q Ls (v :: st)) : oFin w b n0 Q T pc Ls (st) := by
  subst hq
  obtain ⟨hx, hZ, hown, hby, hml, hret, hlk, hnm, eT, locs, X, N⟩ := A
  exact o_go (fun t kk => XS.aloadN X.here hx rfl (hb hby hd) hl hv kk) K
theorem o_aload (A : oPos l Z n0 w b T h k n) {j : Nat} {v : Value} (hd : decode b.bytes pc = .ok (.aload j, 2)) (hl : Ls[j]? = some (.val v)) (hv : v.isRef = true) (hq : pc + 2 = q) (K : oFin w b n0 Q T q Ls (v :: st)) : oFin w b n0 Q T pc Ls (st) := by
  subst hq
  obtain ⟨hx, hZ, hown, hby, hml, hret, hlk, hnm, eT, locs, X, N⟩ := A
  exact o_go (fun t kk => XS.aload X.here hx rfl (hb hby hd) hl hv kk) K
theorem o_iloadN (A : oPos l Z n0 w b T h k n) {j : Fin 4} {v : Int32} (hd : decode b.bytes pc = .ok (.iload_n j, 1)) (hl : Ls[j.val]? = some (.val (.int v))) (hq : pc + 1 = q) (K : oFin w b n0 Q T q Ls (.int v :: st)) : oFin w b n0 Q T pc Ls (st) := by
  subst hq
  obtain ⟨hx, hZ, hown, hby, hml, hret, hlk, hnm, eT, locs, X, N⟩ := A
  exact o_go (fun t kk => XS.iloadN X.here hx rfl (hb hby hd) hl kk) K
theorem o_iload (A : oPos l Z n0 w b T h k n) {j : Nat} {v : Int32} (hd : decode b.bytes pc = .ok (.iload j, 2)) (hl : Ls[j]? = some (.val (.int v))) (hq : pc + 2 = q) (K : oFin w b n0 Q T q Ls (.int v :: st)) : oFin w b n0 Q T pc Ls (st) := by
  subst hq
  obtain ⟨hx, hZ, hown, hby, hml, hret, hlk, hnm, eT, locs, X, N⟩ := A
  exact o_go (fun t kk => XS.iload X.here hx rfl (hb hby hd) hl kk) K
theorem o_lloadN (A : oPos l Z n0 w b T h k n) {j : Fin 4} {v : Int64} (hd : decode b.bytes pc = .ok (.lload_n j, 1)) (hl : Ls[j.val]? = some (.val (.long v))) (hq : pc + 1 = q) (K : oFin w b n0 Q T q Ls (.long v :: st)) : oFin w b n0 Q T pc Ls (st) := by
  subst hq
  obtain ⟨hx, hZ, hown, hby, hml, hret, hlk, hnm, eT, locs, X, N⟩ := A
  exact o_go (fun t kk => XS.lloadN X.here hx rfl (hb hby hd) hl kk) K
theorem o_lload (A : oPos l Z n0 w b T h k n) {j : Nat} {v : Int64} (hd : decode b.bytes pc = .ok (.lload j, 2)) (hl : Ls[j]? = some (.val (.long v))) (hq : pc + 2 = q) (K : oFin w b n0 Q T q Ls (.long v :: st)) : oFin w b n0 Q T pc Ls (st) := by
  subst hq
  obtain ⟨hx, hZ, hown, hby, hml, hret, hlk, hnm, eT, locs, X, N⟩ := A
  exact o_go (fun t kk => XS.lload X.here hx rfl (hb hby hd) hl kk) K
theorem o_iconst (A : oPos l Z n0 w b T h k n) {i : Int} {z : Int32} (hd : decode b.bytes pc = .ok (.iconst i, 1)) (hz : Int32.ofInt i = z) (hq : pc + 1 = q) (K : oFin w b n0 Q T q Ls (.int z :: st)) : oFin w b n0 Q T pc Ls (st) := by
  subst hq hz
  obtain ⟨hx, hZ, hown, hby, hml, hret, hlk, hnm, eT, locs, X, N⟩ := A
  exact o_go (fun t kk => XS.iconst X.here hx rfl (hb hby hd) kk) K
theorem o_bipush (A : oPos l Z n0 w b T h k n) {i : Int} {z : Int32} (hd : decode b.bytes pc = .ok (.bipush i, 2)) (hz : (Int8.ofInt i).toInt32 = z) (hq : pc + 2 = q) (K : oFin w b n0 Q T q Ls (.int z :: st)) : oFin w b n0 Q T pc Ls (st) := by
  subst hq hz
  obtain ⟨hx, hZ, hown, hby, hml, hret, hlk, hnm, eT, locs, X, N⟩ := A
  exact o_go (fun t kk => XS.bipush X.here hx rfl (hb hby hd) kk) K
theorem o_sipush (A : oPos l Z n0 w b T h k n) {i : Int} {z : Int32} (hd : decode b.bytes pc = .ok (.sipush i, 3)) (hz : (Int16.ofInt i).toInt32 = z) (hq : pc + 3 = q) (K : oFin w b n0 Q T q Ls (.int z :: st)) : oFin w b n0 Q T pc Ls (st) := by
  subst hq hz
  obtain ⟨hx, hZ, hown, hby, hml, hret, hlk, hnm, eT, locs, X, N⟩ := A
  exact o_go (fun t kk => XS.sipush X.here hx rfl (hb hby hd) kk) K
theorem o_lconst (A : oPos l Z n0 w b T h k n) {j : Fin 2} {z : Int64} (hd : decode b.bytes pc = .ok (.lconst j, 1)) (hz : Int64.ofNat j = z) (hq : pc + 1 = q) (K : oFin w b n0 Q T q Ls (.long z :: st)) : oFin w b n0 Q T pc Ls (st) := by
  subst hq hz
  obtain ⟨hx, hZ, hown, hby, hml, hret, hlk, hnm, eT, locs, X, N⟩ := A
  exact o_go (fun t kk => XS.lconst X.here hx rfl (hb hby hd) kk) K
theorem o_aconstNull (A : oPos l Z n0 w b T h k n)  (hd : decode b.bytes pc = .ok (.aconst_null, 1))  (hq : pc + 1 = q) (K : oFin w b n0 Q T q Ls (.null :: st)) : oFin w b n0 Q T pc Ls (st) := by
  subst hq
  obtain ⟨hx, hZ, hown, hby, hml, hret, hlk, hnm, eT, locs, X, N⟩ := A
  exact o_go (fun t kk => XS.aconstNull X.here hx rfl (hb hby hd) kk) K
theorem o_iadd (A : oPos l Z n0 w b T h k n) {x y : Int32} (hd : decode b.bytes pc = .ok (.iadd, 1))  (hq : pc + 1 = q) (K : oFin w b n0 Q T q Ls (.int (x + y) :: st)) : oFin w b n0 Q T pc Ls (.int y :: .int x :: st) := by
  subst hq
  obtain ⟨hx, hZ, hown, hby, hml, hret, hlk, hnm, eT, locs, X, N⟩ := A
  exact o_go (fun t kk => XS.iadd X.here hx rfl (hb hby hd) rfl kk) K
theorem o_isub (A : oPos l Z n0 w b T h k n) {x y : Int32} (hd : decode b.bytes pc = .ok (.isub, 1))  (hq : pc + 1 = q) (K : oFin w b n0 Q T q Ls (.int (x - y) :: st)) : oFin w b n0 Q T pc Ls (.int y :: .int x :: st) := by
  subst hq
  obtain ⟨hx, hZ, hown, hby, hml, hret, hlk, hnm, eT, locs, X, N⟩ := A
  exact o_go (fun t kk => XS.isub X.here hx rfl (hb hby hd) rfl kk) K
theorem o_imul (A : oPos l Z n0 w b T h k n) {x y : Int32} (hd : decode b.bytes pc = .ok (.imul, 1))  (hq : pc + 1 = q) (K : oFin w b n0 Q T q Ls (.int (x * y) :: st)) : oFin w b n0 Q T pc Ls (.int y :: .int x :: st) := by
  subst hq
  obtain ⟨hx, hZ, hown, hby, hml, hret, hlk, hnm, eT, locs, X, N⟩ := A
  exact o_go (fun t kk => XS.imul X.here hx rfl (hb hby hd) rfl kk) K
theorem o_iand (A : oPos l Z n0 w b T h k n) {x y : Int32} (hd : decode b.bytes pc = .ok (.iand, 1))  (hq : pc + 1 = q) (K : oFin w b n0 Q T q Ls (.int (x &&& y) :: st)) : oFin w b n0 Q T pc Ls (.int y :: .int x :: st) := by
  subst hq
  obtain ⟨hx, hZ, hown, hby, hml, hret, hlk, hnm, eT, locs, X, N⟩ := A
  exact o_go (fun t kk => XS.iand X.here hx rfl (hb hby hd) rfl kk) K
theorem o_ior (A : oPos l Z n0 w b T h k n) {x y : Int32} (hd : decode b.bytes pc = .ok (.ior, 1))  (hq : pc + 1 = q) (K : oFin w b n0 Q T q Ls (.int (x ||| y) :: st)) : oFin w b n0 Q T pc Ls (.int y :: .int x :: st) := by
  subst hq
  obtain ⟨hx, hZ, hown, hby, hml, hret, hlk, hnm, eT, locs, X, N⟩ := A
  exact o_go (fun t kk => XS.ior X.here hx rfl (hb hby hd) rfl kk) K
theorem o_ishr (A : oPos l Z n0 w b T h k n) {x y : Int32} (hd : decode b.bytes pc = .ok (.ishr, 1))  (hq : pc + 1 = q) (K : oFin w b n0 Q T q Ls (.int (x >>> (y &&& 31)) :: st)) : oFin w b n0 Q T pc Ls (.int y :: .int x :: st) := by
  subst hq
  obtain ⟨hx, hZ, hown, hby, hml, hret, hlk, hnm, eT, locs, X, N⟩ := A
  exact o_go (fun t kk => XS.ishr X.here hx rfl (hb hby hd) rfl kk) K
theorem o_iushr (A : oPos l Z n0 w b T h k n) {x y : Int32} (hd : decode b.bytes pc = .ok (.iushr, 1))  (hq : pc + 1 = q) (K : oFin w b n0 Q T q Ls (.int ((x.toUInt32 >>> (y &&& 31).toUInt32).toInt32) :: st)) : oFin w b n0 Q T pc Ls (.int y :: .int x :: st) := by
  subst hq
  obtain ⟨hx, hZ, hown, hby, hml, hret, hlk, hnm, eT, locs, X, N⟩ := A
  exact o_go (fun t kk => XS.iushr X.here hx rfl (hb hby hd) rfl kk) K
theorem o_idiv (A : oPos l Z n0 w b T h k n) {x y : Int32} (hd : decode b.bytes pc = .ok (.idiv, 1)) (hy : y ≠ 0) (hq : pc + 1 = q) (K : oFin w b n0 Q T q Ls (.int (x / y) :: st)) : oFin w b n0 Q T pc Ls (.int y :: .int x :: st) := by
  subst hq
  obtain ⟨hx, hZ, hown, hby, hml, hret, hlk, hnm, eT, locs, X, N⟩ := A
  exact o_go (fun t kk => XS.idiv X.here hx rfl (hb hby hd) rfl hy kk) K
theorem o_irem (A : oPos l Z n0 w b T h k n) {x y : Int32} (hd : decode b.bytes pc = .ok (.irem, 1)) (hy : y ≠ 0) (hq : pc + 1 = q) (K : oFin w b n0 Q T q Ls (.int (x % y) :: st)) : oFin w b n0 Q T pc Ls (.int y :: .int x :: st) := by
  subst hq
  obtain ⟨hx, hZ, hown, hby, hml, hret, hlk, hnm, eT, locs, X, N⟩ := A
  exact o_go (fun t kk => iremM X hx rfl (hb hby hd) rfl hy kk) K
theorem o_ladd (A : oPos l Z n0 w b T h k n) {x y : Int64} (hd : decode b.bytes pc = .ok (.ladd, 1))  (hq : pc + 1 = q) (K : oFin w b n0 Q T q Ls (.long (x + y) :: st)) : oFin w b n0 Q T pc Ls (.long y :: .long x :: st) := by
  subst hq
  obtain ⟨hx, hZ, hown, hby, hml, hret, hlk, hnm, eT, locs, X, N⟩ := A
  exact o_go (fun t kk => XS.ladd X.here hx rfl (hb hby hd) rfl kk) K
theorem o_lsub (A : oPos l Z n0 w b T h k n) {x y : Int64} (hd : decode b.bytes pc = .ok (.lsub, 1))  (hq : pc + 1 = q) (K : oFin w b n0 Q T q Ls (.long (x - y) :: st)) : oFin w b n0 Q T pc Ls (.long y :: .long x :: st) := by
  subst hq
  obtain ⟨hx, hZ, hown, hby, hml, hret, hlk, hnm, eT, locs, X, N⟩ := A
  exact o_go (fun t kk => XS.lsub X.here hx rfl (hb hby hd) rfl kk) K
theorem o_lmul (A : oPos l Z n0 w b T h k n) {x y : Int64} (hd : decode b.bytes pc = .ok (.lmul, 1))  (hq : pc + 1 = q) (K : oFin w b n0 Q T q Ls (.long (x * y) :: st)) : oFin w b n0 Q T pc Ls (.long y :: .long x :: st) := by
  subst hq
  obtain ⟨hx, hZ, hown, hby, hml, hret, hlk, hnm, eT, locs, X, N⟩ := A
  exact o_go (fun t kk => XS.lmul X.here hx rfl (hb hby hd) rfl kk) K
theorem o_land (A : oPos l Z n0 w b T h k n) {x y : Int64} (hd : decode b.bytes pc = .ok (.land, 1))  (hq : pc + 1 = q) (K : oFin w b n0 Q T q Ls (.long (x &&& y) :: st)) : oFin w b n0 Q T pc Ls (.long y :: .long x :: st) := by
  subst hq
  obtain ⟨hx, hZ, hown, hby, hml, hret, hlk, hnm, eT, locs, X, N⟩ := A
  exact o_go (fun t kk => XS.land X.here hx rfl (hb hby hd) rfl kk) K
theorem o_lrem (A : oPos l Z n0 w b T h k n) {x y : Int64} (hd : decode b.bytes pc = .ok (.lrem, 1)) (hy : y ≠ 0) (hq : pc + 1 = q) (K : oFin w b n0 Q T q Ls (.long (x - (x / y) * y) :: st)) : oFin w b n0 Q T pc Ls (.long y :: .long x :: st) := by
  subst hq
  obtain ⟨hx, hZ, hown, hby, hml, hret, hlk, hnm, eT, locs, X, N⟩ := A
  exact o_go (fun t kk => XS.lrem X.here hx rfl (hb hby hd) rfl hy kk) K
theorem o_lushr (A : oPos l Z n0 w b T h k n) {x : Int64} {y : Int32} (hd : decode b.bytes pc = .ok (.lushr, 1))  (hq : pc + 1 = q) (K : oFin w b n0 Q T q Ls (.long ((x.toUInt64 >>> (y &&& 0x3f).toInt64.toUInt64).toInt64) :: st)) : oFin w b n0 Q T pc Ls (.int y :: .long x :: st) := by
  subst hq
  obtain ⟨hx, hZ, hown, hby, hml, hret, hlk, hnm, eT, locs, X, N⟩ := A
  exact o_go (fun t kk => XS.lushr X.here hx rfl (hb hby hd) rfl kk) K
theorem o_i2l (A : oPos l Z n0 w b T h k n) {x : Int32} (hd : decode b.bytes pc = .ok (.i2l, 1))  (hq : pc + 1 = q) (K : oFin w b n0 Q T q Ls (.long (x.toInt64) :: st)) : oFin w b n0 Q T pc Ls (.int x :: st) := by
  subst hq
  obtain ⟨hx, hZ, hown, hby, hml, hret, hlk, hnm, eT, locs, X, N⟩ := A
  exact o_go (fun t kk => XS.i2l X.here hx rfl (hb hby hd) rfl kk) K
theorem o_i2b (A : oPos l Z n0 w b T h k n) {x : Int32} (hd : decode b.bytes pc = .ok (.i2b, 1))  (hq : pc + 1 = q) (K : oFin w b n0 Q T q Ls (.int (x.toInt8.toInt32) :: st)) : oFin w b n0 Q T pc Ls (.int x :: st) := by
  subst hq
  obtain ⟨hx, hZ, hown, hby, hml, hret, hlk, hnm, eT, locs, X, N⟩ := A
  exact o_go (fun t kk => XS.i2b X.here hx rfl (hb hby hd) rfl kk) K
theorem o_i2c (A : oPos l Z n0 w b T h k n) {x : Int32} (hd : decode b.bytes pc = .ok (.i2c, 1))  (hq : pc + 1 = q) (K : oFin w b n0 Q T q Ls (.int (x.toUInt32.toUInt16.toUInt32.toInt32) :: st)) : oFin w b n0 Q T pc Ls (.int x :: st) := by
  subst hq
  obtain ⟨hx, hZ, hown, hby, hml, hret, hlk, hnm, eT, locs, X, N⟩ := A
  exact o_go (fun t kk => XS.i2c X.here hx rfl (hb hby hd) rfl kk) K
theorem o_lcmp (A : oPos l Z n0 w b T h k n) {x y : Int64} (hd : decode b.bytes pc = .ok (.lcmp, 1))  (hq : pc + 1 = q) (K : oFin w b n0 Q T q Ls (.int (lcmpW x y) :: st)) : oFin w b n0 Q T pc Ls (.long y :: .long x :: st) := by
  subst hq
  obtain ⟨hx, hZ, hown, hby, hml, hret, hlk, hnm, eT, locs, X, N⟩ := A
  exact o_go (fun t kk => XS.lcmp X.here hx rfl (hb hby hd) rfl kk) K
theorem o_dup (A : oPos l Z n0 w b T h k n) {x : Value} (hd : decode b.bytes pc = .ok (.dup, 1)) (hc : x.category = 1) (hq : pc + 1 = q) (K : oFin w b n0 Q T q Ls (x :: x :: st)) : oFin w b n0 Q T pc Ls (x :: st) := by
  subst hq
  obtain ⟨hx, hZ, hown, hby, hml, hret, hlk, hnm, eT, locs, X, N⟩ := A
  exact o_go (fun t kk => XS.dup X.here hx rfl (hb hby hd) rfl hc kk) K
theorem o_dupX1 (A : oPos l Z n0 w b T h k n) {x y : Value} (hd : decode b.bytes pc = .ok (.dup_x1, 1)) (hc : x.category = 1) (hc2 : y.category = 1) (hq : pc + 1 = q) (K : oFin w b n0 Q T q Ls (x :: y :: x :: st)) : oFin w b n0 Q T pc Ls (x :: y :: st) := by
  subst hq
  obtain ⟨hx, hZ, hown, hby, hml, hret, hlk, hnm, eT, locs, X, N⟩ := A
  exact o_go (fun t kk => Jvm.Free.XT.dupX1 X.here hx rfl (hb hby hd) rfl hc hc2 kk) K
theorem o_dup2 (A : oPos l Z n0 w b T h k n) {x y : Value} (hd : decode b.bytes pc = .ok (.dup2, 1)) (hc : x.category = 1) (hc2 : y.category = 1) (hq : pc + 1 = q) (K : oFin w b n0 Q T q Ls (x :: y :: x :: y :: st)) : oFin w b n0 Q T pc Ls (x :: y :: st) := by
  subst hq
  obtain ⟨hx, hZ, hown, hby, hml, hret, hlk, hnm, eT, locs, X, N⟩ := A
  exact o_go (fun t kk => Jvm.Free.XT.dup2 X.here hx rfl (hb hby hd) rfl hc hc2 kk) K
theorem o_pop (A : oPos l Z n0 w b T h k n) {x : Value} (hd : decode b.bytes pc = .ok (.pop, 1)) (hc : x.category = 1) (hq : pc + 1 = q) (K : oFin w b n0 Q T q Ls (st)) : oFin w b n0 Q T pc Ls (x :: st) := by
  subst hq
  obtain ⟨hx, hZ, hown, hby, hml, hret, hlk, hnm, eT, locs, X, N⟩ := A
  exact o_go (fun t kk => XS.pop X.here hx rfl (hb hby hd) rfl hc kk) K
theorem o_istoreN (A : oPos l Z n0 w b T h k n) {j : Fin 4} {x : Int32} (hd : decode b.bytes pc = .ok (.istore_n j, 1)) (hl : storeLocals Ls j.val (.int x) = some Ls') (hq : pc + 1 = q) (K : oFin w b n0 Q T q Ls' (st)) : oFin w b n0 Q T pc Ls (.int x :: st) := by
  subst hq
  obtain ⟨hx, hZ, hown, hby, hml, hret, hlk, hnm, eT, locs, X, N⟩ := A
  exact o_go (fun t kk => XS.istoreN X.here hx rfl (hb hby hd) rfl hl kk) K
theorem o_istore (A : oPos l Z n0 w b T h k n) {j : Nat} {x : Int32} (hd : decode b.bytes pc = .ok (.istore j, 2)) (hl : storeLocals Ls j (.int x) = some Ls') (hq : pc + 2 = q) (K : oFin w b n0 Q T q Ls' (st)) : oFin w b n0 Q T pc Ls (.int x :: st) := by
  subst hq
  obtain ⟨hx, hZ, hown, hby, hml, hret, hlk, hnm, eT, locs, X, N⟩ := A
  exact o_go (fun t kk => XS.istore X.here hx rfl (hb hby hd) rfl hl kk) K
theorem o_lstoreN (A : oPos l Z n0 w b T h k n) {j : Fin 4} {x : Int64} (hd : decode b.bytes pc = .ok (.lstore_n j, 1)) (hl : storeLocals Ls j.val (.long x) = some Ls') (hq : pc + 1 = q) (K : oFin w b n0 Q T q Ls' (st)) : oFin w b n0 Q T pc Ls (.long x :: st) := by
  subst hq
  obtain ⟨hx, hZ, hown, hby, hml, hret, hlk, hnm, eT, locs, X, N⟩ := A
  exact o_go (fun t kk => XS.lstoreN X.here hx rfl (hb hby hd) rfl hl kk) K
theorem o_lstore (A : oPos l Z n0 w b T h k n) {j : Nat} {x : Int64} (hd : decode b.bytes pc = .ok (.lstore j, 2)) (hl : storeLocals Ls j (.long x) = some Ls') (hq : pc + 2 = q) (K : oFin w b n0 Q T q Ls' (st)) : oFin w b n0 Q T pc Ls (.long x :: st) := by
  subst hq
  obtain ⟨hx, hZ, hown, hby, hml, hret, hlk, hnm, eT, locs, X, N⟩ := A
  exact o_go (fun t kk => XS.lstore X.here hx rfl (hb hby hd) rfl hl kk) K
theorem o_astoreN (A : oPos l Z n0 w b T h k n) {j : Fin 4} {x : Value} (hd : decode b.bytes pc = .ok (.astore_n j, 1)) (hv : x.isRef = true) (hl : storeLocals Ls j.val x = some Ls') (hq : pc + 1 = q) (K : oFin w b n0 Q T q Ls' (st)) : oFin w b n0 Q T pc Ls (x :: st) := by
  subst hq
  obtain ⟨hx, hZ, hown, hby, hml, hret, hlk, hnm, eT, locs, X, N⟩ := A
  exact o_go (fun t kk => XS.astoreN X.here hx rfl (hb hby hd) rfl hv hl kk) K
theorem o_astore (A : oPos l Z n0 w b T h k n) {j : Nat} {x : Value} (hd : decode b.bytes pc = .ok (.astore j, 2)) (hv : x.isRef = true) (hl : storeLocals Ls j x = some Ls') (hq : pc + 2 = q) (K : oFin w b n0 Q T q Ls' (st)) : oFin w b n0 Q T pc Ls (x :: st) := by
  subst hq
  obtain ⟨hx, hZ, hown, hby, hml, hret, hlk, hnm, eT, locs, X, N⟩ := A
  exact o_go (fun t kk => XS.astore X.here hx rfl (hb hby hd) rfl hv hl kk) K
theorem o_iinc (A : oPos l Z n0 w b T h k n) {j : Nat} {cst : Int} {x z : Int32} (hd : decode b.bytes pc = .ok (.iinc j cst, 3)) (hl : Ls[j]? = some (.val (.int x))) (hz : x + Int32.ofInt cst = z) (hl' : storeLocals Ls j (.int z) = some Ls') (hq : pc + 3 = q) (K : oFin w b n0 Q T q Ls' (st)) : oFin w b n0 Q T pc Ls (st) := by
  subst hq hz
  obtain ⟨hx, hZ, hown, hby, hml, hret, hlk, hnm, eT, locs, X, N⟩ := A
  exact o_go (fun t kk => XS.iinc X.here hx rfl (hb hby hd) hl hl' kk) K
theorem o_ldc (A : oPos l Z n0 w b T h k n) {index : Nat} {v : Int32} (hd : decode b.bytes pc = .ok (.ldc index, 2)) (wd : (Jvm.Cond.constant b.y.cls index v).before a0 Z = true) (hq : pc + 2 = q) (K : oFin w b n0 Q T q Ls (.int v :: st)) : oFin w b n0 Q T pc Ls (st) := by
  subst hq
  obtain ⟨hx, hZ, hown, hby, hml, hret, hlk, hnm, eT, locs, X, N⟩ := A
  exact o_go (fun t kk => X.ldcInt hx hown (mvT hZ wd) (g := mkF w.2.2.2.1 pc Ls st) rfl (hb hby hd) t kk) K
theorem o_ldc2 (A : oPos l Z n0 w b T h k n) {index : Nat} {v : Int64} (hd : decode b.bytes pc = .ok (.ldc2_w index, 3)) (wd : (Jvm.Cond.constantLong b.y.cls index v).before a0 Z = true) (hq : pc + 3 = q) (K : oFin w b n0 Q T q Ls (.long v :: st)) : oFin w b n0 Q T pc Ls (st) := by
  subst hq
  obtain ⟨hx, hZ, hown, hby, hml, hret, hlk, hnm, eT, locs, X, N⟩ := A
  exact o_go (fun t kk => X.ldc2Long hx hown (mvT hZ wd) (g := mkF w.2.2.2.1 pc Ls st) rfl (hb hby hd) t kk) K
theorem o_goto (A : oPos l Z n0 w b T h k n) {o : Int} (hd : decode b.bytes pc = .ok (.goto o, 3)) (ho : 0 ≤ (pc : Int) + o) (hq : ((pc : Int) + o).toNat = q) (K : oFin w b n0 Q T q Ls st) : oFin w b n0 Q T pc Ls st := by
  obtain ⟨hx, hZ, hown, hby, hml, hret, hlk, hnm, eT, locs, X, N⟩ := A
  exact o_go (fun t kk => XS.goto X.here hx rfl rfl (hb hby hd) ho hq kk) K
/-- what a comparison says -/
def oCnd : ClassFile.Cond → Int32 → Int32 → Prop
  | .eq, x, y => x = y
  | .ne, x, y => x ≠ y
  | .lt, x, y => x < y
  | .ge, x, y => y ≤ x
  | .gt, x, y => y < x
  | .le, x, y => x ≤ y
theorem o_cnd (cd : ClassFile.Cond) (x y : Int32) : if_icmp.holds cd x y = true ↔ oCnd cd x y := by
  cases cd <;> simp [if_icmp.holds, oCnd]
theorem o_icmp (A : oPos l Z n0 w b T h k n) {cd : ClassFile.Cond} {x y : Int32} {o : Int} {q' : Nat} (hd : decode b.bytes pc = .ok (.if_icmp cd o, 3)) (ho : 0 ≤ (pc : Int) + o) (hq : ((pc : Int) + o).toNat = q) (hq' : pc + 3 = q') (Y : oCnd cd x y → oFin w b n0 Q T q Ls st) (N' : ¬ oCnd cd x y → oFin w b n0 Q T q' Ls st) : oFin w b n0 Q T pc Ls (.int y :: .int x :: st) := by
  subst hq'
  obtain ⟨hx, hZ, hown, hby, hml, hret, hlk, hnm, eT, locs, X, N⟩ := A
  by_cases hc : oCnd cd x y
  · exact o_go (fun t kk => XS.icmpYes X.here hx rfl rfl (hb hby hd) rfl ((o_cnd _ _ _).mpr hc) ho hq kk) (Y hc)
  · exact o_go (fun t kk => XS.icmpNo X.here hx rfl (hb hby hd) rfl (by rw [← Bool.not_eq_true, o_cnd]; exact hc) kk) (N' hc)
theorem o_if (A : oPos l Z n0 w b T h k n) {cd : ClassFile.Cond} {x : Int32} {o : Int} {q' : Nat} (hd : decode b.bytes pc = .ok (.ifCond cd o, 3)) (ho : 0 ≤ (pc : Int) + o) (hq : ((pc : Int) + o).toNat = q) (hq' : pc + 3 = q') (Y : oCnd cd x 0 → oFin w b n0 Q T q Ls st) (N' : ¬ oCnd cd x 0 → oFin w b n0 Q T q' Ls st) : oFin w b n0 Q T pc Ls (.int x :: st) := by
  subst hq'
  obtain ⟨hx, hZ, hown, hby, hml, hret, hlk, hnm, eT, locs, X, N⟩ := A
  by_cases hc : oCnd cd x 0
  · exact o_go (fun t kk => XS.ifYes X.here hx rfl rfl (hb hby hd) rfl ((if0 _ _).trans ((o_cnd _ _ _).mpr hc)) ho hq kk) (Y hc)
  · exact o_go (fun t kk => XS.ifNo X.here hx rfl (hb hby hd) rfl ((if0 _ _).trans (by rw [← Bool.not_eq_true, o_cnd]; exact hc)) kk) (N' hc)
theorem o_ifnonnullR (A : oPos l Z n0 w b T h k n) {a : Addr} {o : Int} (hd : decode b.bytes pc = .ok (.ifnonnull o, 3)) (ho : 0 ≤ (pc : Int) + o) (hq : ((pc : Int) + o).toNat = q) (K : oFin w b n0 Q T q Ls st) : oFin w b n0 Q T pc Ls (.ref a :: st) := by
  obtain ⟨hx, hZ, hown, hby, hml, hret, hlk, hnm, eT, locs, X, N⟩ := A
  exact o_go (fun t kk => XS.ifnonnullYes X.here hx rfl rfl (hb hby hd) rfl ho hq kk) K
theorem o_ifnonnullN (A : oPos l Z n0 w b T h k n) {o : Int} (hd : decode b.bytes pc = .ok (.ifnonnull o, 3)) (hq : pc + 3 = q) (K : oFin w b n0 Q T q Ls st) : oFin w b n0 Q T pc Ls (.null :: st) := by
  subst hq
  obtain ⟨hx, hZ, hown, hby, hml, hret, hlk, hnm, eT, locs, X, N⟩ := A
  exact o_go (fun t kk => XS.ifnonnullNo X.here hx rfl (hb hby hd) rfl kk) K
/-- if_acmpne of two references that differ: taken -/
theorem o_acmpneY (A : oPos l Z n0 w b T h k n) {a c : Addr} {o : Int} (hd : decode b.bytes pc = .ok (.if_acmp .ne o, 3)) (hne : a ≠ c) (ho : 0 ≤ (pc : Int) + o) (hq : ((pc : Int) + o).toNat = q) (K : oFin w b n0 Q T q Ls st) : oFin w b n0 Q T pc Ls (.ref c :: .ref a :: st) := by
  obtain ⟨hx, hZ, hown, hby, hml, hret, hlk, hnm, eT, locs, X, N⟩ := A
  exact o_go (fun t kk => XS.acmpYes X.here hx rfl rfl (hb hby hd) rfl (by simp [if_acmp.holds, hne]) ho hq kk) K

theorem o_retV (A : oPos l Z n0 w b T h k n)  (hr : b.ret = none)  (hd : decode b.bytes pc = .ok (.return_, 1)) (hk : k ≤ b.R.cells) (hn : n ≤ b.R.slots) (hQ : Q (none) h) : oFin w b n0 Q T pc Ls ([]) := by
  obtain ⟨hx, hZ, hown, hby, hml, hret, hlk, hnm, eT, locs, X, N⟩ := A
  have hret' : w.2.2.2.2.2.2.1.sig.returnType = none := hret.trans hr
  obtain ⟨fs, hr', hrun, hended, hW, hsame⟩ := X.leave (v := none) (fun _ => rfl) hlk
  exact ⟨_, _, X.returnOut hx hret' (hb hby hd) hr', hrun, hended, _, _, rfl, ⟨by rw [← eT] at hQ; exact hQ, N⟩, ⟨_, rfl⟩, hW, hsame.mono hk hn⟩
theorem o_retI (A : oPos l Z n0 w b T h k n) {z : Int32} (hr : b.ret = some .int)  (hd : decode b.bytes pc = .ok (.ireturn, 1)) (hk : k ≤ b.R.cells) (hn : n ≤ b.R.slots) (hQ : Q (some (.int z)) h) : oFin w b n0 Q T pc Ls ([.int z]) := by
  obtain ⟨hx, hZ, hown, hby, hml, hret, hlk, hnm, eT, locs, X, N⟩ := A
  have hret' : w.2.2.2.2.2.2.1.sig.returnType = some .int := hret.trans hr
  obtain ⟨fs, hr', hrun, hended, hW, hsame⟩ := X.leave (v := some (.int z)) (fun hz => by rw [hret'] at hz; cases hz) hlk
  exact ⟨_, _, X.ireturnOut hx hret' rfl (Or.inl rfl) (hb hby hd) hr', hrun, hended, _, _, rfl, ⟨by rw [← eT] at hQ; exact hQ, N⟩, ⟨_, rfl⟩, hW, hsame.mono hk hn⟩
theorem o_retJ (A : oPos l Z n0 w b T h k n) {z : Int64} (hr : b.ret = some .long)  (hd : decode b.bytes pc = .ok (.lreturn, 1)) (hk : k ≤ b.R.cells) (hn : n ≤ b.R.slots) (hQ : Q (some (.long z)) h) : oFin w b n0 Q T pc Ls ([.long z]) := by
  obtain ⟨hx, hZ, hown, hby, hml, hret, hlk, hnm, eT, locs, X, N⟩ := A
  have hret' : w.2.2.2.2.2.2.1.sig.returnType = some .long := hret.trans hr
  obtain ⟨fs, hr', hrun, hended, hW, hsame⟩ := X.leave (v := some (.long z)) (fun hz => by rw [hret'] at hz; cases hz) hlk
  exact ⟨_, _, X.lreturnOut hx hret' (hb hby hd) hr', hrun, hended, _, _, rfl, ⟨by rw [← eT] at hQ; exact hQ, N⟩, ⟨_, rfl⟩, hW, hsame.mono hk hn⟩
theorem o_retA (A : oPos l Z n0 w b T h k n) {z : Value} {t : FieldType} (hr : b.ret = some t) (ht : t.isReference = true) (hz : z.isRef = true) (hd : decode b.bytes pc = .ok (.areturn, 1)) (hk : k ≤ b.R.cells) (hn : n ≤ b.R.slots) (hQ : Q (some z) h) : oFin w b n0 Q T pc Ls ([z]) := by
  obtain ⟨hx, hZ, hown, hby, hml, hret, hlk, hnm, eT, locs, X, N⟩ := A
  have hret' : w.2.2.2.2.2.2.1.sig.returnType = some t := hret.trans hr
  obtain ⟨fs, hr', hrun, hended, hW, hsame⟩ := X.leave (v := some z) (fun hz => by rw [hret'] at hz; cases hz) hlk
  exact ⟨_, _, X.areturnOut hx hz hret' ht (hb hby hd) hr', hrun, hended, _, _, rfl, ⟨by rw [← eT] at hQ; exact hQ, N⟩, ⟨_, rfl⟩, hW, hsame.mono hk hn⟩
theorem o_retN (A : oPos l Z n0 w b T h k n) {z : Int32} {t : FieldType} (hr : b.ret = some t) (ht : t = .boolean ∨ t = .byte ∨ t = .char ∨ t = .short) (hd : decode b.bytes pc = .ok (.ireturn, 1)) (hk : k ≤ b.R.cells) (hn : n ≤ b.R.slots) (hQ : Q (some (.int (nar t z))) h) : oFin w b n0 Q T pc Ls ([.int z]) := by
  obtain ⟨hx, hZ, hown, hby, hml, hret, hlk, hnm, eT, locs, X, N⟩ := A
  have hret' : w.2.2.2.2.2.2.1.sig.returnType = some t := hret.trans hr
  obtain ⟨fs, hr', hrun, hended, hW, hsame⟩ := X.leave (v := some (.int (nar t z))) (fun hz => by rw [hret'] at hz; cases hz) hlk
  exact ⟨_, _, retN X hx hret' ht (hb hby hd) hr', hrun, hended, _, _, rfl, ⟨by rw [← eT] at hQ; exact hQ, N⟩, ⟨_, rfl⟩, hW, hsame.mono hk hn⟩
theorem o_getF (A : oPos l Z n0 w b T h k n) {O nm d : String} {index : Nat} {a : Addr} {v : Value} (hd : decode b.bytes pc = .ok (.getfield index, 3)) (wd : (Jvm.Cond.fieldLink b.y.cls index O nm d).before a0 Z = true) (F : Fld Z h a O nm d v) (hq : pc + 3 = q) (K : ∀ T', oPos l Z n0 w b T' h k n → oFin w b n0 Q T' q Ls (v :: st)) : oFin w b n0 Q T pc Ls (.ref a :: st) := by
  subst hq
  obtain ⟨hx, hZ, hown, hby, hml, hret, hlk, hnm, eT, locs, X, N⟩ := A
  obtain ⟨T', X', e', st'⟩ := getF X hx hZ hown (host := "") (Or.inl wd) Via.refl eT F (g := mkF w.2.2.2.1 pc Ls (.ref a :: st)) rfl rfl (hb hby hd)
  exact o_go st' (K T' ⟨hx, hZ, hown, hby, hml, hret, hlk, hnm, e', locs, X', N⟩)
theorem o_putF (A : oPos l Z n0 w b T h k n) {O nm d C : String} {index kk : Nat} {a : Addr} {v old : Value} {ty : FieldType} (hd : decode b.bytes pc = .ok (.putfield index, 3)) (wd : (Jvm.Cond.fieldLink b.y.cls index O nm d).before a0 Z = true) (F : Fld Z h a O nm d old) (E : Exa Z h a C) (L : (Jvm.Cond.lays C O nm d).before a0 Z = true ∨ ((Jvm.Cond.laysFinal C O nm d).before a0 Z = true ∧ b.y.cls = O ∧ b.y.name = "<init>"))
    (wi : (Jvm.Cond.instantiable C kk).before a0 Z = true) (hty : parseFieldDescriptor d = some ty) (hna : narrow ty v = v) (hfi : fits ty v = true) (ha : n0 ≤ a) (hq : pc + 3 = q) (K : ∀ T' h', oPos l Z n0 w b T' h' k n → Wr h h' a (RoadKit.slotOf Z O nm d) v → oFin w b n0 Q T' q Ls st) : oFin w b n0 Q T pc Ls (v :: .ref a :: st) := by
  subst hq
  obtain ⟨hx, hZ, hown, hby, hml, hret, hlk, hnm, eT, locs, X, N⟩ := A
  obtain ⟨T', h', X', e', W, st'⟩ := putF X hx hZ hown (host := "") (Or.inl wd) Via.refl eT F E (L.imp id fun q => ⟨q.1, q.2.1, hnm.trans q.2.2⟩) wi hty hna hfi (g := mkF w.2.2.2.1 pc Ls (v :: .ref a :: st)) rfl rfl (hb hby hd)
  exact o_go st' (K T' h' ⟨hx, hZ, hown, hby, hml, hret, hlk, hnm, e', _, X', Fr.snoc X' N ha⟩ W)
theorem o_newO (A : oPos l Z n0 w b T h k n) {C : String} {index m k' n' : Nat} (hd : decode b.bytes pc = .ok (.new index, 3)) (wd : (Jvm.Cond.classLink b.y.cls index C).before a0 Z = true) (wi : (Jvm.Cond.instantiable C m).before a0 Z = true) (wz : (Jvm.Cond.initialized C).before a0 Z = true) (hk : k + 1 = k') (hn : n + m = n') (hk2 : k' ≤ b.R.cells) (hn2 : n' ≤ b.R.slots) (hq : pc + 3 = q)
    (K : ∀ T' h' a, a = h.size → oPos l Z n0 w b T' h' k' n' → Ext h h' → Exa Z h' a C → (∀ {O nm d : String} {ty : FieldType}, Laid Z a0 C O nm d → parseFieldDescriptor d = some ty → Fld Z h' a O nm d (defaultValue ty)) → oFin w b n0 Q T' q Ls (.ref a :: st)) : oFin w b n0 Q T pc Ls st := by
  subst hq hk hn
  obtain ⟨hx, hZ, hown, hby, hml, hret, hlk, hnm, eT, locs, X, N⟩ := A
  obtain ⟨T', h', X', e', E, Ax, Dx, -, st'⟩ := newO X hx hZ hown wd wi wz eT (g := mkF w.2.2.2.1 pc Ls st) rfl (hb hby hd) hk2 hn2
  exact o_go st' (K T' h' _ rfl ⟨hx, hZ, hown, hby, hml, hret, hlk, hnm, e', _, X', N⟩ E Ax Dx)
theorem o_initO (A : oPos l Z n0 w b T h k n) {idx W : Nat} {a : Addr} (hd : decode b.bytes pc = .ok (.invokespecial idx, 3)) (w1 : (Jvm.Cond.methodLink b.y.cls idx Lib.objectInit).before a0 Z = true) (w2 : (Jvm.Cond.instanceMethod Lib.objectInit).before a0 Z = true) (w3 : (Jvm.Cond.code Lib.objectInit Jvm.Lib.objCode 1 none).before a0 Z = true) (hsz : Ls.size = b.maxL) (hf : 1 ≤ b.R.frames) (hW : (st.map fun v => v.category).sum = W) (hl : W + 12 ≤ b.R.locals) (hq : pc + 3 = q)
    (K : ∀ T', oPos l Z n0 w b T' h k n → oFin w b n0 Q T' q Ls st) : oFin w b n0 Q T pc Ls (.ref a :: st) := by
  subst hq
  obtain ⟨hx, hZ, hown, hby, hml, hret, hlk, hnm, eT, locs, X, N⟩ := A
  obtain ⟨T', X', e', st'⟩ := initO X hx hZ hown w1 w2 w3 eT (g := mkF w.2.2.2.1 pc Ls (.ref a :: st)) rfl (hsz.trans hml.symm) rfl (hb hby hd) hf (W := W) (by show 2 * 0 + _ ≤ _; omega) hl
  exact o_go st' (K T' ⟨hx, hZ, hown, hby, hml, hret, hlk, hnm, e', locs, X', N⟩)

theorem o_selP {s : State} {args : Array Value} {n : Nat} {y : MethodName} (hy : y.cls ≠ "java/lang/invoke/MethodHandle" ∧ y.cls ≠ "java/lang/invoke/VarHandle") (hins : (Jvm.Cond.instantiable y.cls n).before args s = true) (hpriv : (Jvm.Cond.privateMethod y).before args s = true) (hinst : (Jvm.Cond.instanceMethod y).before args s = true) : (Jvm.Cond.selects y.cls y y).before args s = true := by
  obtain ⟨c, k, hc, hk, -, hniab, -, -⟩ := Cond.instantiable_spec hins
  have hni : k.isInterface = false := (Bool.or_eq_false_iff.mp hniab).1
  obtain ⟨mk, methM, hnamed, hmethM, -, -⟩ := Cond.instanceMethod_spec hinst
  have hfound : s.methodFound? y.cls y.name y.desc = some mk := State.methodFound?_of_named hnamed hy
  have hcls : mk.cls = c := Option.some.inj ((findClass_of_methodNamed hnamed).symm.trans hc)
  have hsel : selectMethod {} s.vm c mk = .method mk := selectMethod_private hmethM (Cond.privateMethod_at hpriv mk methM hnamed hmethM)
  simp only [Cond.before, Cond.holds, Cond.value, hc, hfound, hnamed, hsel, hcls, hk]
  simp; exact hni
theorem o_callS (A : oPos l Z n0 w b T h k n) {b' : oBd} {as' : Array Value} {Q' : Option Value → Heap → Prop} {index W k' n' : Nat} {argsL : List Value} {sig : MethodDescriptor} (hM : oMet l b' [] Z n0 as' h Q') (hd : decode b.bytes pc = .ok (.invokestatic index, 3)) (w1 : (Jvm.Cond.methodLink b.y.cls index b'.y).before a0 Z = true) (w2 : (Jvm.Cond.static b'.y).before a0 Z = true) (w3 : (Jvm.Cond.initialized b'.y.cls).before a0 Z = true) (w4 : (Jvm.Cond.code b'.y b'.bytes b'.maxL b'.ret).before a0 Z = true)
    (hy : b'.y.cls ≠ "java/lang/invoke/MethodHandle" ∧ b'.y.cls ≠ "java/lang/invoke/VarHandle") (hsig : parseMethodDescriptor b'.y.desc = some sig) (hlen : argsL.length = sig.parameters.length) (has : argsL.toArray = as') (hst : st' = argsL.reverse ++ st) (hsz : Ls.size = b.maxL) (hW : (st.map fun v => v.category).sum = W) (hf : b'.R.frames + 1 ≤ b.R.frames) (hl : W + (b'.maxL + 11) + b'.R.locals ≤ b.R.locals)
    (hk : k + b'.R.cells = k') (hn : n + b'.R.slots = n') (hk2 : k' ≤ b.R.cells) (hn2 : n' ≤ b.R.slots) (hq : pc + 3 = q) (K : ∀ v T' h', oPos l Z n0 w b T' h' k' n' → Q' v h' → oFin w b n0 Q T' q Ls (v.toList ++ st)) : oFin w b n0 Q T pc Ls st' := by
  subst hq hk hn has hst
  obtain ⟨hx, hZ, hown, hby, hml, hret, hlk, hnm, eT, locs, X, N⟩ := A
  obtain ⟨v, _, ⟨T', L', k', n'⟩, -, X', ⟨Lc, hQ', l', y', z'⟩, stp⟩ := Jvm.LawKit.callS X hx (y := b'.y) hown (mvT hZ w1) (mvT hZ w2) (mvT hZ w3) (mvT hZ w4) hy (backOf (W := W) (Q := fun v h' L => Q' v h' ∧ Fr n0 L) hM hZ w4 w3 hf hl) (g := mkF w.2.2.2.1 pc Ls (argsL.reverse ++ st)) rfl (hsz.trans hml.symm) (argsL := argsL) (rest := st) (lenOf hsig hlen) rfl (by show 2 * 0 + _ ≤ _; omega) (hb hby hd) (fun _ _ => ⟨rfl, eT, hk2, hn2⟩)
  dsimp only [Pt.U, Pt.locs, Pt.cells, Pt.slots] at X' l' y' z' stp hQ'
  subst l' y' z'
  exact o_go stp (K v T' _ ⟨hx, hZ, hown, hby, hml, hret, hlk, hnm, rfl, _, X', Fr.app N hQ'.2⟩ hQ'.1)
theorem o_callV (A : oPos l Z n0 w b T h k n) {b' : oBd} {as' : Array Value} {Q' : Option Value → Heap → Prop} {C : String} {a : Addr} {index W k' n' : Nat} {argsL : List Value} {sig : MethodDescriptor} (hM : oMet l b' [] Z n0 as' h Q') (hd : decode b.bytes pc = .ok (.invokevirtual index, 3)) (E : Exa Z h a C) (w1 : (Jvm.Cond.methodLink b.y.cls index b'.y).before a0 Z = true) (w2 : (Jvm.Cond.declares b'.y).before a0 Z = true) (ws : (Jvm.Cond.selects C b'.y b'.y).before a0 Z = true) (wi : (Jvm.Cond.instanceMethod b'.y).before a0 Z = true) (w3 : (Jvm.Cond.initialized b'.y.cls).before a0 Z = true) (w4 : (Jvm.Cond.code b'.y b'.bytes b'.maxL b'.ret).before a0 Z = true)
    (hy : b'.y.cls ≠ "java/lang/invoke/MethodHandle" ∧ b'.y.cls ≠ "java/lang/invoke/VarHandle") (hsig : parseMethodDescriptor b'.y.desc = some sig) (hlen : argsL.length = sig.parameters.length) (has : (.ref a :: argsL).toArray = as') (hst : st' = argsL.reverse ++ .ref a :: st) (hsz : Ls.size = b.maxL) (hW : (st.map fun v => v.category).sum = W) (hf : b'.R.frames + 1 ≤ b.R.frames) (hl : W + (b'.maxL + 11) + b'.R.locals ≤ b.R.locals)
    (hk : k + b'.R.cells = k') (hn : n + b'.R.slots = n') (hk2 : k' ≤ b.R.cells) (hn2 : n' ≤ b.R.slots) (hq : pc + 3 = q) (K : ∀ v T' h', oPos l Z n0 w b T' h' k' n' → Q' v h' → oFin w b n0 Q T' q Ls (v.toList ++ st)) : oFin w b n0 Q T pc Ls st' := by
  subst hq hk hn has hst
  obtain ⟨hx, hZ, hown, hby, hml, hret, hlk, hnm, eT, locs, X, N⟩ := A
  obtain ⟨cq, kq, qa, qb, qc⟩ := isOf hZ eT E
  obtain ⟨v, _, ⟨T', L', k', n'⟩, -, X', ⟨Lc, hQ', l', y', z'⟩, stp⟩ := X.virtualBack hx (y := b'.y) (z := b'.y) hown (mvT hZ w1) (mvT hZ w2) (notFace_of_selects (args := #[]) (mvT hZ ws)) (mvT hZ ws) (mvT hZ wi) hy (backOf (W := W) (Q := fun v h' L => Q' v h' ∧ Fr n0 L) hM hZ w4 w3 hf hl) qa qc (g := mkF w.2.2.2.1 pc Ls (argsL.reverse ++ .ref a :: st)) rfl (hsz.trans hml.symm) (Steps.refl _) (argsL := argsL) (rest := st) (lenOf hsig hlen) rfl (by show 2 * 0 + _ ≤ _; omega) (hb hby hd) (fun _ _ => ⟨rfl, eT, hk2, hn2⟩)
  dsimp only [Pt.U, Pt.locs, Pt.cells, Pt.slots] at X' l' y' z' stp hQ'
  subst l' y' z'
  exact o_go (fun t kk => stp.trans kk) (K v T' _ ⟨hx, hZ, hown, hby, hml, hret, hlk, hnm, rfl, _, X', Fr.app N hQ'.2⟩ hQ'.1)
theorem o_callP (A : oPos l Z n0 w b T h k n) {b' : oBd} {as' : Array Value} {Q' : Option Value → Heap → Prop} {C : String} {a : Addr} {index W k' n' : Nat} {argsL : List Value} {sig : MethodDescriptor} (hM : oMet l b' [] Z n0 as' h Q') (hd : decode b.bytes pc = .ok (.invokevirtual index, 3)) (E : Exa Z h a C) (w1 : (Jvm.Cond.methodLink b.y.cls index b'.y).before a0 Z = true) (wp : (Jvm.Cond.privateMethod b'.y).before a0 Z = true) {mm : Nat} (wn : (Jvm.Cond.instantiable b'.y.cls mm).before a0 Z = true) (wi : (Jvm.Cond.instanceMethod b'.y).before a0 Z = true) (w3 : (Jvm.Cond.initialized b'.y.cls).before a0 Z = true) (w4 : (Jvm.Cond.code b'.y b'.bytes b'.maxL b'.ret).before a0 Z = true)
    (hy : b'.y.cls ≠ "java/lang/invoke/MethodHandle" ∧ b'.y.cls ≠ "java/lang/invoke/VarHandle") (hsig : parseMethodDescriptor b'.y.desc = some sig) (hlen : argsL.length = sig.parameters.length) (has : (.ref a :: argsL).toArray = as') (hst : st' = argsL.reverse ++ .ref a :: st) (hsz : Ls.size = b.maxL) (hW : (st.map fun v => v.category).sum = W) (hf : b'.R.frames + 1 ≤ b.R.frames) (hl : W + (b'.maxL + 11) + b'.R.locals ≤ b.R.locals)
    (hk : k + b'.R.cells = k') (hn : n + b'.R.slots = n') (hk2 : k' ≤ b.R.cells) (hn2 : n' ≤ b.R.slots) (hq : pc + 3 = q) (K : ∀ v T' h', oPos l Z n0 w b T' h' k' n' → Q' v h' → oFin w b n0 Q T' q Ls (v.toList ++ st)) : oFin w b n0 Q T pc Ls st' := by
  subst hq hk hn has hst
  obtain ⟨hx, hZ, hown, hby, hml, hret, hlk, hnm, eT, locs, X, N⟩ := A
  obtain ⟨cq, qa, qb⟩ := E.cell
  obtain ⟨v, _, ⟨T', L', k', n'⟩, -, X', ⟨Lc, hQ', l', y', z'⟩, stp⟩ := X.privateBack hx (y := b'.y) hown (mvT hZ w1) (mvT hZ wi) (mvT hZ (o_selP hy wn wp wi)) (Cond.privateMethod_at (mvP hZ wp (args := #[]))) (mvT hZ w4) hy (backOf (W := W) (Q := fun v h' L => Q' v h' ∧ Fr n0 L) hM hZ w4 w3 hf hl) (g := mkF w.2.2.2.1 pc Ls (argsL.reverse ++ .ref a :: st)) rfl (hsz.trans hml.symm) (Steps.refl _) (a := a) (by rw [eT]; exact qa) qb (argsL := argsL) (rest := st) (lenOf hsig hlen) rfl (by show 2 * 0 + _ ≤ _; omega) (hb hby hd) (fun _ _ => ⟨rfl, eT, hk2, hn2⟩)
  dsimp only [Pt.U, Pt.locs, Pt.cells, Pt.slots] at X' l' y' z' stp hQ'
  subst l' y' z'
  exact o_go (fun t kk => stp.trans kk) (K v T' _ ⟨hx, hZ, hown, hby, hml, hret, hlk, hnm, rfl, _, X', Fr.app N hQ'.2⟩ hQ'.1)
theorem o_callC (A : oPos l Z n0 w b T h k n) {b' : oBd} {as' : Array Value} {Q' : Option Value → Heap → Prop} {a : Addr} {index W k' n' : Nat} {argsL : List Value} {sig : MethodDescriptor} (hM : oMet l b' [] Z n0 as' h Q') (hd : decode b.bytes pc = .ok (.invokespecial index, 3)) (hi : b'.y.name = "<init>") (w1 : (Jvm.Cond.methodLink b.y.cls index b'.y).before a0 Z = true) (wi : (Jvm.Cond.instanceMethod b'.y).before a0 Z = true) (w3 : (Jvm.Cond.initialized b'.y.cls).before a0 Z = true) (w4 : (Jvm.Cond.code b'.y b'.bytes b'.maxL b'.ret).before a0 Z = true) (hrn : b'.ret = none)
    (hy : b'.y.cls ≠ "java/lang/invoke/MethodHandle" ∧ b'.y.cls ≠ "java/lang/invoke/VarHandle") (hsig : parseMethodDescriptor b'.y.desc = some sig) (hlen : argsL.length = sig.parameters.length) (has : (.ref a :: argsL).toArray = as') (hst : st' = argsL.reverse ++ .ref a :: st) (hsz : Ls.size = b.maxL) (hW : (st.map fun v => v.category).sum = W) (hf : b'.R.frames + 1 ≤ b.R.frames) (hl : W + (b'.maxL + 11) + b'.R.locals ≤ b.R.locals)
    (hk : k + b'.R.cells = k') (hn : n + b'.R.slots = n') (hk2 : k' ≤ b.R.cells) (hn2 : n' ≤ b.R.slots) (hq : pc + 3 = q) (K : ∀ v T' h', oPos l Z n0 w b T' h' k' n' → Q' v h' → oFin w b n0 Q T' q Ls (v.toList ++ st)) : oFin w b n0 Q T pc Ls st' := by
  subst hq hk hn has hst
  obtain ⟨hx, hZ, hown, hby, hml, hret, hlk, hnm, eT, locs, X, N⟩ := A
  obtain ⟨v, _, ⟨T', L', k', n'⟩, -, X', ⟨Lc, hQ', l', y', z'⟩, stp⟩ := X.specialBack hx (y := b'.y) hi hown (mvT hZ w1) (mvT hZ wi) (bytes := b'.bytes) (maxL := b'.maxL) (mvT hZ (by rw [← hrn]; exact w4)) hy (backOf (W := W) (Q := fun v h' L => Q' v h' ∧ Fr n0 L) hM hZ w4 w3 hf hl) (g := mkF w.2.2.2.1 pc Ls (argsL.reverse ++ .ref a :: st)) rfl (hsz.trans hml.symm) (Steps.refl _) (a := a) (argsL := argsL) (rest := st) (lenOf hsig hlen) rfl (by show 2 * 0 + _ ≤ _; omega) (hb hby hd) (fun _ _ => ⟨rfl, eT, hk2, hn2⟩)
  dsimp only [Pt.U, Pt.locs, Pt.cells, Pt.slots] at X' l' y' z' stp hQ'
  subst l' y' z'
  exact o_go (fun t kk => stp.trans kk) (K v T' _ ⟨hx, hZ, hown, hby, hml, hret, hlk, hnm, rfl, _, X', Fr.app N hQ'.2⟩ hQ'.1)

/-- an array of n places; place i holds f i -/
def oArr (Z : State) (h : Heap) (a : Addr) (ty : FieldType) (n : Nat) (f : Nat → Value) : Prop := n < 2 ^ 31 ∧ ∃ c : Cell, Arr Z h a c ty ∧ c.slots.size = n ∧ ∀ i, i < n → c.slots[i]? = some (f i)
theorem o_ix {j : Int32} {i m : Nat} (hj : j.toInt = (i : Int)) (hi : i < m) : j.toNatClampNeg = i ∧ ¬ (j < 0 ∨ m ≤ j.toNatClampNeg) := by
  have e1 : j.toNatClampNeg = i := by
    show j.toInt.toNat = i
    rw [hj]; rfl
  refine ⟨e1, ?_⟩
  rw [e1, Int32.lt_iff_toInt_lt, hj, Int32.toInt_zero]
  omega
section Arrays
variable {h1 h2 : Heap} {a c : Addr} {ty : FieldType} {m : Nat} {f : Nat → Value} {sl : Nat} {v : Value} {ws : List Addr}
theorem oArr.lt (F : oArr Z h1 a ty m f) : a < h1.size := by obtain ⟨-, c, A, -⟩ := F; exact A.lt
theorem oArr.ext (F : oArr Z h1 a ty m f) (E : Ext h1 h2) : oArr Z h2 a ty m f := by obtain ⟨q, c, A, r⟩ := F; exact ⟨q, c, A.ext E, r⟩
theorem oArr.other (F : oArr Z h1 a ty m f) (W : Wr h1 h2 c sl v) (q : a ≠ c) : oArr Z h2 a ty m f := by obtain ⟨p, c, A, r⟩ := F; exact ⟨p, c, A.other W q, r⟩
theorem oArr.keep (F : oArr Z h1 a ty m f) (K : Keep h1 h2 ws) (q : a ∉ ws) : oArr Z h2 a ty m f := by obtain ⟨p, c, A, r⟩ := F; exact ⟨p, c, ⟨K.2.1 a c A.1 q, A.2⟩, r⟩
theorem oArr.same (F : oArr Z h1 a ty m f) (W : Wr h1 h2 a sl v) : oArr Z h2 a ty m (fun i => if i = sl then v else f i) := by
  obtain ⟨p, c, A, S, H⟩ := F
  refine ⟨p, _, A.same W, by rw [← S]; simp [Cell.setSlot], fun i hi => ?_⟩
  show (c.slots.setIfInBounds sl v)[i]? = _
  by_cases e : i = sl
  · subst e
    simp [S, hi]
  · simp only [if_neg e]
    rw [Array.getElem?_setIfInBounds_ne (Ne.symm e)]
    exact H i hi
theorem oArr.congr {f' : Nat → Value} (F : oArr Z h1 a ty m f) (q : ∀ i, i < m → f i = f' i) : oArr Z h1 a ty m f' := by
  obtain ⟨p, c, A, S, H⟩ := F
  exact ⟨p, c, A, S, fun i hi => by rw [← q i hi]; exact H i hi⟩
end Arrays
theorem o_arraylength (A : oPos l Z n0 w b T h k n) {a : Addr} {ty : FieldType} {m : Nat} {f : Nat → Value} {z : Int32} (hd : decode b.bytes pc = .ok (.arraylength, 1)) (F : oArr Z h a ty m f) (hz : m.toInt32 = z) (hq : pc + 1 = q) (K : oFin w b n0 Q T q Ls (.int z :: st)) : oFin w b n0 Q T pc Ls (.ref a :: st) := by
  subst hq hz
  obtain ⟨hx, hZ, hown, hby, hml, hret, hlk, hnm, eT, locs, X, N⟩ := A
  obtain ⟨-, c, Ar, S, -⟩ := F
  subst S
  exact o_go (fun t kk => X.arraylength hx (by rw [eT]; exact Ar.1) (State.isArrayOf_alike hZ.alike Ar.2.1) (g := mkF w.2.2.2.1 pc Ls (.ref a :: st)) rfl rfl (hb hby hd) t kk) K

theorem o_iaload (A : oPos l Z n0 w b T h k n) {a : Addr} {m i : Nat} {f : Nat → Value} {j : Int32} {v : Value} (hd : decode b.bytes pc = .ok (.iaload, 1)) (F : oArr Z h a .int m f) (hj : j.toInt = (i : Int)) (hi : i < m) (hv : f i = v) (hq : pc + 1 = q) (K : oFin w b n0 Q T q Ls (v :: st)) : oFin w b n0 Q T pc Ls (.int j :: .ref a :: st) := by
  subst hq hv
  obtain ⟨hx, hZ, hown, hby, hml, hret, hlk, hnm, eT, locs, X, N⟩ := A
  obtain ⟨-, c, Ar, S, H⟩ := F
  subst S
  exact o_go (fun t kk => X.iaload hx (j := j) (v := f i) (by rw [eT]; exact Ar.1) (State.isArrayOf_alike hZ.alike Ar.2.1) Ar.2.2 (o_ix hj hi).2 (by rw [(o_ix hj hi).1]; exact H i hi) (g := mkF w.2.2.2.1 pc Ls (.int j :: .ref a :: st)) rfl rfl (hb hby hd) t kk) K
theorem o_laload (A : oPos l Z n0 w b T h k n) {a : Addr} {m i : Nat} {f : Nat → Value} {j : Int32} {v : Value} (hd : decode b.bytes pc = .ok (.laload, 1)) (F : oArr Z h a .long m f) (hj : j.toInt = (i : Int)) (hi : i < m) (hv : f i = v) (hq : pc + 1 = q) (K : oFin w b n0 Q T q Ls (v :: st)) : oFin w b n0 Q T pc Ls (.int j :: .ref a :: st) := by
  subst hq hv
  obtain ⟨hx, hZ, hown, hby, hml, hret, hlk, hnm, eT, locs, X, N⟩ := A
  obtain ⟨-, c, Ar, S, H⟩ := F
  subst S
  exact o_go (fun t kk => X.laload hx (j := j) (v := f i) (by rw [eT]; exact Ar.1) (State.isArrayOf_alike hZ.alike Ar.2.1) Ar.2.2 (o_ix hj hi).2 (by rw [(o_ix hj hi).1]; exact H i hi) (g := mkF w.2.2.2.1 pc Ls (.int j :: .ref a :: st)) rfl rfl (hb hby hd) t kk) K
theorem o_baload (A : oPos l Z n0 w b T h k n) {a : Addr} {m i : Nat} {f : Nat → Value} {j : Int32} {v : Value} (hd : decode b.bytes pc = .ok (.baload, 1)) (F : oArr Z h a .byte m f) (hj : j.toInt = (i : Int)) (hi : i < m) (hv : f i = v) (hq : pc + 1 = q) (K : oFin w b n0 Q T q Ls (v :: st)) : oFin w b n0 Q T pc Ls (.int j :: .ref a :: st) := by
  subst hq hv
  obtain ⟨hx, hZ, hown, hby, hml, hret, hlk, hnm, eT, locs, X, N⟩ := A
  obtain ⟨-, c, Ar, S, H⟩ := F
  subst S
  exact o_go (fun t kk => X.baloadBytes hx (j := j) (v := f i) (by rw [eT]; exact Ar.1) (State.isArrayOf_alike hZ.alike Ar.2.1) Ar.2.2 (o_ix hj hi).2 (by rw [(o_ix hj hi).1]; exact H i hi) (g := mkF w.2.2.2.1 pc Ls (.int j :: .ref a :: st)) rfl rfl (hb hby hd) t kk) K
theorem o_aaload (A : oPos l Z n0 w b T h k n) {a : Addr} {m i : Nat} {f : Nat → Value} {j : Int32} {v : Value} {ty : FieldType} (hd : decode b.bytes pc = .ok (.aaload, 1)) (F : oArr Z h a ty m f) (hty : ty.isReference = true) (hj : j.toInt = (i : Int)) (hi : i < m) (hv : f i = v) (hq : pc + 1 = q) (K : oFin w b n0 Q T q Ls (v :: st)) : oFin w b n0 Q T pc Ls (.int j :: .ref a :: st) := by
  subst hq hv
  obtain ⟨hx, hZ, hown, hby, hml, hret, hlk, hnm, eT, locs, X, N⟩ := A
  obtain ⟨-, c, Ar, S, H⟩ := F
  subst S
  exact o_go (fun t kk => X.aaload hx (j := j) (v := f i) (by rw [eT]; exact Ar.1) (State.isArrayOf_alike hZ.alike Ar.2.1) hty Ar.2.2 (o_ix hj hi).2 (by rw [(o_ix hj hi).1]; exact H i hi) (g := mkF w.2.2.2.1 pc Ls (.int j :: .ref a :: st)) rfl rfl (hb hby hd) t kk) K
theorem o_iastore (A : oPos l Z n0 w b T h k n) {a : Addr} {m i : Nat} {f : Nat → Value} {j : Int32} {x : Int32} (hd : decode b.bytes pc = .ok (.iastore, 1)) (F : oArr Z h a .int m f) (hj : j.toInt = (i : Int)) (hi : i < m) (ha : n0 ≤ a) (hq : pc + 1 = q) (K : ∀ T' h', oPos l Z n0 w b T' h' k n → Wr h h' a i (.int x) → oFin w b n0 Q T' q Ls st) : oFin w b n0 Q T pc Ls (.int x :: .int j :: .ref a :: st) := by
  subst hq
  obtain ⟨hx, hZ, hown, hby, hml, hret, hlk, hnm, eT, locs, X, N⟩ := A
  obtain ⟨-, c, Ar, S, H⟩ := F
  subst S
  obtain ⟨e1, e2⟩ := o_ix hj hi
  obtain ⟨T', h', X', e', W, st'⟩ := stI X hx hZ eT Ar (j := j) e2 (g := mkF w.2.2.2.1 pc Ls (.int x :: .int j :: .ref a :: st)) rfl rfl (hb hby hd)
  rw [e1] at W
  exact o_go st' (K T' h' ⟨hx, hZ, hown, hby, hml, hret, hlk, hnm, e', _, X', Fr.snoc X' N ha⟩ W)
theorem o_lastore (A : oPos l Z n0 w b T h k n) {a : Addr} {m i : Nat} {f : Nat → Value} {j : Int32} {x : Int64} (hd : decode b.bytes pc = .ok (.lastore, 1)) (F : oArr Z h a .long m f) (hj : j.toInt = (i : Int)) (hi : i < m) (ha : n0 ≤ a) (hq : pc + 1 = q) (K : ∀ T' h', oPos l Z n0 w b T' h' k n → Wr h h' a i (.long x) → oFin w b n0 Q T' q Ls st) : oFin w b n0 Q T pc Ls (.long x :: .int j :: .ref a :: st) := by
  subst hq
  obtain ⟨hx, hZ, hown, hby, hml, hret, hlk, hnm, eT, locs, X, N⟩ := A
  obtain ⟨-, c, Ar, S, H⟩ := F
  subst S
  obtain ⟨e1, e2⟩ := o_ix hj hi
  obtain ⟨T', h', X', e', W, st'⟩ := stJ X hx hZ eT Ar (j := j) e2 (g := mkF w.2.2.2.1 pc Ls (.long x :: .int j :: .ref a :: st)) rfl rfl (hb hby hd)
  rw [e1] at W
  exact o_go st' (K T' h' ⟨hx, hZ, hown, hby, hml, hret, hlk, hnm, e', _, X', Fr.snoc X' N ha⟩ W)
theorem o_bastore (A : oPos l Z n0 w b T h k n) {a : Addr} {m i : Nat} {f : Nat → Value} {j : Int32} {x : Int32} (hd : decode b.bytes pc = .ok (.bastore, 1)) (F : oArr Z h a .byte m f) (hj : j.toInt = (i : Int)) (hi : i < m) (ha : n0 ≤ a) (hq : pc + 1 = q) (K : ∀ T' h', oPos l Z n0 w b T' h' k n → Wr h h' a i (.int (nar .byte x)) → oFin w b n0 Q T' q Ls st) : oFin w b n0 Q T pc Ls (.int x :: .int j :: .ref a :: st) := by
  subst hq
  obtain ⟨hx, hZ, hown, hby, hml, hret, hlk, hnm, eT, locs, X, N⟩ := A
  obtain ⟨-, c, Ar, S, H⟩ := F
  subst S
  obtain ⟨e1, e2⟩ := o_ix hj hi
  obtain ⟨T', h', X', e', W, st'⟩ := stB X hx hZ eT Ar (j := j) e2 (g := mkF w.2.2.2.1 pc Ls (.int x :: .int j :: .ref a :: st)) rfl rfl (hb hby hd)
  rw [e1] at W
  exact o_go st' (K T' h' ⟨hx, hZ, hown, hby, hml, hret, hlk, hnm, e', _, X', Fr.snoc X' N ha⟩ W)
theorem o_kept {s u : State} {h : Heap} (K : Jvm.Free.XT.Kept s u) (e : s.heap = h) : Ext h u.heap := by
  subst e
  refine ⟨Nat.le_of_not_lt fun q => ?_, K⟩
  have hlt : s.heap.size - 1 < s.heap.size := by omega
  have h1 := (Array.getElem?_eq_some_iff.mp (K (s.heap.size - 1) _ (Array.getElem?_eq_getElem hlt))).1
  omega
theorem o_ext {h h' : Heap} (K : Keep h h' []) : Ext h h' := ⟨K.1, fun x c q => K.2.1 x c q nin0⟩
theorem o_exrefl (h : Heap) : Ext h h := ⟨Nat.le_refl _, fun _ _ q => q⟩
theorem o_extr {h h' h2 : Heap} (E : Ext h h') (E2 : Ext h' h2) : Ext h h2 := ⟨Nat.le_trans E.1 E2.1, fun x c q => E2.2 x c (E.2 x c q)⟩
theorem o_exwr {h h' h2 : Heap} {a : Addr} {sl : Nat} {v : Value} (E : Ext h h') (W : Wr h' h2 a sl v) (q : h.size ≤ a) : Ext h h2 := by
  refine ⟨by rw [W.size]; exact E.1, fun x c hc => ?_⟩
  have hx : x < h.size := (Array.getElem?_eq_some_iff.mp hc).1
  obtain ⟨c', e1, -, -, -, e5, -⟩ := wr_at W (E.2 x c hc)
  rw [← e5 (Nat.ne_of_lt (Nat.lt_of_lt_of_le hx q))]; exact e1
/-- isArrayOf, carried back to the start's tables -/
theorem o_arrBack {Z u : State} (hal : Z.vm.Alike u.vm) {B : Cell} {t : FieldType} (hA : u.isArrayOf B t) {ad : String} (hf : u.vm.findClass ad = some B.cls) : Z.isArrayOf B t ∧ ∃ kZ, Z.vm.findClass ad = some B.cls ∧ Z.vm.classes[B.cls]? = some kZ ∧ ∃ comp, kZ.kind = .array comp t := by
  rw [hal.findClass] at hf
  obtain ⟨kZ, z1, -⟩ := Vm.findClass_spec hf
  obtain ⟨k', z2, z3⟩ := hal.2.2 _ _ z1
  obtain ⟨q0, k2, q1, comp, q2⟩ := hA
  cases q1.symm.trans z2
  have q3 : kZ.kind = .array comp t := by rw [← q2, z3]
  exact ⟨⟨q0, kZ, z1, comp, q3⟩, kZ, hf, z1, comp, q3⟩
theorem o_copyOfI (A : oPos l Z n0 w b T h k n) {a : Addr} {m j : Nat} {f : Nat → Int32} {z : Int32} {index W k' n' : Nat} (hd : decode b.bytes pc = .ok (.invokestatic index, 3)) (V : oArr Z h a .int m (fun i => .int (f i))) (E : Exa Z h a "[I") (hz : Int32.ofNat j = z) (hj : j ≤ 134217728) (w1 : (Jvm.Cond.methodLink b.y.cls index Jvm.Free.JA.CopyOfI.yN).before a0 Z = true) (w2 : (Jvm.Cond.static Jvm.Free.JA.CopyOfI.yN).before a0 Z = true) (w3 : (Jvm.Cond.initialized "java/util/Arrays").before a0 Z = true) (w4 : (Jvm.Cond.code Jvm.Free.JA.CopyOfI.yN Jvm.Free.JA.CopyOfI.yB 3 (some (.array .int))).before a0 Z = true)
    (ws : ∀ d ∈ Jvm.Free.JA.CopyOfI.site, d.before w.2.2.2.2.1 w.2.2.1 = true) (hsz : Ls.size = b.maxL) (hW : (st.map fun v => v.category).sum = W) (hf : 2 ≤ b.R.frames) (hl : W + 54 ≤ b.R.locals) (hk : k + 1 = k') (hn : n + j = n') (hk2 : k' ≤ b.R.cells) (hn2 : n' ≤ b.R.slots) (hq : pc + 3 = q)
    (K : ∀ T' h' r, r = h.size → oPos l Z n0 w b T' h' k' n' → Ext h h' → oArr Z h' r .int j (fun i => if i < m then .int (f i) else .int 0) → Exa Z h' r "[I" → oFin w b n0 Q T' q Ls (.ref r :: st)) : oFin w b n0 Q T pc Ls (.int z :: .ref a :: st) := by
  subst hq hk hn hz
  obtain ⟨hx, hZ, hown, hby, hml, hret, hlk, hnm, eT, locs, X, N⟩ := A
  obtain ⟨hm, cl, Ar, S, H⟩ := V
  obtain ⟨cl', kc, e1, e2, e3, e4, -⟩ := E
  cases e1.symm.trans Ar.1
  have hal : Z.vm.Alike w.2.2.1.vm := hZ.alike
  have hty : Jvm.Free.XT.Typed .int cl := fun i v hv => by
    have hi : i < cl.slots.size := (Array.getElem?_eq_some_iff.mp hv).1
    rw [H i (by omega)] at hv
    cases hv; rfl
  have htab : Jvm.Free.JA.CopyOfI.tab.before w.2.2.2.2.1 w.2.2.1 = true := Jvm.Free.XT.unparts (mvT hZ w4) (fun d hd' => (List.mem_cons.mp hd').elim (fun e => e ▸ mvT hZ w3) (ws d))
  obtain ⟨v, vm₁, ⟨T', L', k', n'⟩, hW₁, X', ⟨hE, l', y', z'⟩, stp⟩ := Jvm.LawKit.callS X hx (y := Jvm.Free.JA.CopyOfI.yN) hown (mvT hZ w1) (mvT hZ w2) (mvT hZ w3) (mvT hZ w4) (by decide) (Jvm.Free.JA.CopyOfI.pays (W := W) a cl j htab hf hl) (g := mkF w.2.2.2.1 pc Ls (.int (Int32.ofNat j) :: .ref a :: st)) rfl (hsz.trans hml.symm) (argsL := [.ref a, .int (Int32.ofNat j)]) (rest := st) (lenOf (show parseMethodDescriptor "([II)[I" = some ⟨[.array .int, .int], some (.array .int)⟩ by decide +kernel) rfl) rfl (by show 2 * 0 + _ ≤ _; omega) (hb hby hd)
    (fun vm₁ hv₁ => ⟨hk2, hn2, rfl, ⟨by show T.heap[a]? = _; rw [eT]; exact Ar.1, State.isArrayOf_alike (hal.trans hv₁.alike) Ar.2.1, Ar.2.2, by omega⟩, by show vm₁.findClass _ = _; rw [(hal.trans hv₁.alike).findClass]; exact e2, hty, hj⟩)
  dsimp only [Pt.U, Pt.locs, Pt.cells, Pt.slots] at X' l' y' z' stp hE
  subst l' y' z'
  obtain ⟨rfl, B, b1, b2, b3, b4, b5, b6⟩ := hE
  have halU : Z.vm.Alike T'.vm := hal.trans X'.warmed.alike
  obtain ⟨c1, kZ, c2, c3, comp, c4⟩ := o_arrBack halU b1.2.1 b3
  have hsz' : (T.setVm vm₁).heap.size = h.size := by rw [← eT]; rfl
  rw [hsz'] at b1 stp
  refine o_go stp (K T' _ _ rfl ⟨hx, hZ, hown, hby, hml, hret, hlk, hnm, rfl, _, X', by rw [List.append_nil]; exact N⟩ ?_ ⟨by omega, B, ⟨b1.1, c1, b1.2.2.1⟩, b4, fun i hi => ?_⟩ ⟨B, kZ, b1.1, c2, c3, by rw [b2]; rfl, fun q => by rw [c4] at q; cases q⟩)
  · exact o_kept b6 (by show T.heap = h; exact eT)
  · rw [b5 i hi]
    show some (cl.slots.getD i (defaultValue .int)) = some (if i < m then .int (f i) else .int 0)
    by_cases e : i < m
    · rw [if_pos e]
      have := H i e
      simp [Array.getD_eq_getD_getElem?, this]
    · rw [if_neg e]
      simp [Array.getD_eq_getD_getElem?, Array.getElem?_eq_none (show cl.slots.size ≤ i by omega)]; rfl
theorem o_copyOfJ (A : oPos l Z n0 w b T h k n) {a : Addr} {m j : Nat} {f : Nat → Int64} {z : Int32} {index W k' n' : Nat} (hd : decode b.bytes pc = .ok (.invokestatic index, 3)) (V : oArr Z h a .long m (fun i => .long (f i))) (E : Exa Z h a "[J") (hz : Int32.ofNat j = z) (hj : j ≤ 67108864) (w1 : (Jvm.Cond.methodLink b.y.cls index Jvm.Free.JA.CopyOfJ.yN).before a0 Z = true) (w2 : (Jvm.Cond.static Jvm.Free.JA.CopyOfJ.yN).before a0 Z = true) (w3 : (Jvm.Cond.initialized "java/util/Arrays").before a0 Z = true) (w4 : (Jvm.Cond.code Jvm.Free.JA.CopyOfJ.yN Jvm.Free.JA.CopyOfJ.yB 3 (some (.array .long))).before a0 Z = true)
    (ws : ∀ d ∈ Jvm.Free.JA.CopyOfJ.site, d.before w.2.2.2.2.1 w.2.2.1 = true) (hsz : Ls.size = b.maxL) (hW : (st.map fun v => v.category).sum = W) (hf : 2 ≤ b.R.frames) (hl : W + 54 ≤ b.R.locals) (hk : k + 1 = k') (hn : n + j = n') (hk2 : k' ≤ b.R.cells) (hn2 : n' ≤ b.R.slots) (hq : pc + 3 = q)
    (K : ∀ T' h' r, r = h.size → oPos l Z n0 w b T' h' k' n' → Ext h h' → oArr Z h' r .long j (fun i => if i < m then .long (f i) else .long 0) → Exa Z h' r "[J" → oFin w b n0 Q T' q Ls (.ref r :: st)) : oFin w b n0 Q T pc Ls (.int z :: .ref a :: st) := by
  subst hq hk hn hz
  obtain ⟨hx, hZ, hown, hby, hml, hret, hlk, hnm, eT, locs, X, N⟩ := A
  obtain ⟨hm, cl, Ar, S, H⟩ := V
  obtain ⟨cl', kc, e1, e2, e3, e4, -⟩ := E
  cases e1.symm.trans Ar.1
  have hal : Z.vm.Alike w.2.2.1.vm := hZ.alike
  have hty : Jvm.Free.XT.Typed .long cl := fun i v hv => by
    have hi : i < cl.slots.size := (Array.getElem?_eq_some_iff.mp hv).1
    rw [H i (by omega)] at hv
    cases hv; rfl
  have htab : Jvm.Free.JA.CopyOfJ.tab.before w.2.2.2.2.1 w.2.2.1 = true := Jvm.Free.XT.unparts (mvT hZ w4) (fun d hd' => (List.mem_cons.mp hd').elim (fun e => e ▸ mvT hZ w3) (ws d))
  obtain ⟨v, vm₁, ⟨T', L', k', n'⟩, hW₁, X', ⟨hE, l', y', z'⟩, stp⟩ := Jvm.LawKit.callS X hx (y := Jvm.Free.JA.CopyOfJ.yN) hown (mvT hZ w1) (mvT hZ w2) (mvT hZ w3) (mvT hZ w4) (by decide) (Jvm.Free.JA.CopyOfJ.pays (W := W) a cl j htab hf hl) (g := mkF w.2.2.2.1 pc Ls (.int (Int32.ofNat j) :: .ref a :: st)) rfl (hsz.trans hml.symm) (argsL := [.ref a, .int (Int32.ofNat j)]) (rest := st) (lenOf (show parseMethodDescriptor "([JI)[J" = some ⟨[.array .long, .int], some (.array .long)⟩ by decide +kernel) rfl) rfl (by show 2 * 0 + _ ≤ _; omega) (hb hby hd)
    (fun vm₁ hv₁ => ⟨hk2, hn2, rfl, ⟨by show T.heap[a]? = _; rw [eT]; exact Ar.1, State.isArrayOf_alike (hal.trans hv₁.alike) Ar.2.1, Ar.2.2, by omega⟩, by show vm₁.findClass _ = _; rw [(hal.trans hv₁.alike).findClass]; exact e2, hty, hj⟩)
  dsimp only [Pt.U, Pt.locs, Pt.cells, Pt.slots] at X' l' y' z' stp hE
  subst l' y' z'
  obtain ⟨rfl, B, b1, b2, b3, b4, b5, b6⟩ := hE
  have halU : Z.vm.Alike T'.vm := hal.trans X'.warmed.alike
  obtain ⟨c1, kZ, c2, c3, comp, c4⟩ := o_arrBack halU b1.2.1 b3
  have hsz' : (T.setVm vm₁).heap.size = h.size := by rw [← eT]; rfl
  rw [hsz'] at b1 stp
  refine o_go stp (K T' _ _ rfl ⟨hx, hZ, hown, hby, hml, hret, hlk, hnm, rfl, _, X', by rw [List.append_nil]; exact N⟩ ?_ ⟨by omega, B, ⟨b1.1, c1, b1.2.2.1⟩, b4, fun i hi => ?_⟩ ⟨B, kZ, b1.1, c2, c3, by rw [b2]; rfl, fun q => by rw [c4] at q; cases q⟩)
  · exact o_kept b6 (by show T.heap = h; exact eT)
  · rw [b5 i hi]
    show some (cl.slots.getD i (defaultValue .long)) = some (if i < m then .long (f i) else .long 0)
    by_cases e : i < m
    · rw [if_pos e]
      have := H i e
      simp [Array.getD_eq_getD_getElem?, this]
    · rw [if_neg e]
      simp [Array.getD_eq_getD_getElem?, Array.getElem?_eq_none (show cl.slots.size ≤ i by omega)]; rfl
theorem o_newarr (A : oPos l Z n0 w b T h k n) {aty : ArrayType} {ty : FieldType} {z : Int32} {m cap k' n' : Nat} (hd : decode b.bytes pc = .ok (.newarray aty, 2)) (hty : newarray.typeOf aty = ty) (wd : (Jvm.Cond.arrayClass ty).before a0 Z = true) (hz : z.toInt = (m : Int)) (hcap : m ≤ cap) (hbig : cap * 8 ≤ 536870912) (hk : k + 1 = k') (hn : n + cap = n') (hk2 : k' ≤ b.R.cells) (hn2 : n' ≤ b.R.slots) (hq : pc + 2 = q) {ad : String} (had : "[" ++ ty.toString = ad)
    (K : ∀ T' h' a, a = h.size → oPos l Z n0 w b T' h' k' n' → Ext h h' → oArr Z h' a ty m (fun _ => defaultValue ty) → Exa Z h' a ad → oFin w b n0 Q T' q Ls (.ref a :: st)) : oFin w b n0 Q T pc Ls (.int z :: st) := by
  subst hq hk hn hty
  obtain ⟨hx, hZ, hown, hby, hml, hret, hlk, hnm, eT, locs, X, N⟩ := A
  have e1 : z.toNatClampNeg = m := by show z.toInt.toNat = m; rw [hz]; rfl
  have e2 : ¬ z < 0 := by rw [Int32.lt_iff_toInt_lt, hz, Int32.toInt_zero]; omega
  obtain ⟨T', h', cA, X', e', E, Ar, Ea, st'⟩ := newPE X hx hZ wd eT (g := mkF w.2.2.2.1 pc Ls (.int z :: st)) rfl (hb hby hd) rfl e2 (cap := cap) (by rw [e1]; exact hcap) hbig hk2 hn2 had
  refine o_go st' (K T' h' _ rfl ⟨hx, hZ, hown, hby, hml, hret, hlk, hnm, e', _, X', N⟩ E ⟨?_, _, Ar, (sz_new _ _ _).trans e1, fun i hi => ?_⟩ Ea)
  · have := z.toInt_lt; omega
  · show (Array.replicate z.toNatClampNeg _)[i]? = _
    rw [e1]; simp [hi]
end Steps
end Jvm.OwnKit
namespace Jvm.Pilot.@@N@@
open Jvm Jvm.ClassFile Sem Op Lib Jvm.Free Jvm.Stand Jvm.LawKit Jvm.RoadKit Bundle Jvm.OwnKit Jvm.Pilot.@@N@@.Jvm.D
theorem own_site {Z s : State} {a0 args : Array Value} (hZ : Z.Warmed39 s.vm) (hw : ∀ d ∈ tables_1, d.before a0 Z = true) : ∀ d ∈ Jvm.Free.JA.CopyOfI.site, d.before args s = true := by
  intro d hd
  replace hd : d ∈ ([.classLink "java/util/Arrays" 317 "[I", .castable "[I" "[I", .arrayClass .int, Jvm.Free.JP.Math_min_II.tab, .methodLink "java/util/Arrays" 316 ⟨"[I", "clone", "()Ljava/lang/Object;"⟩, .sameMethod "[I" "java/lang/Object" "clone" "()Ljava/lang/Object;", .native Jvm.Free.XT.objClone, .instanceMethod Jvm.Free.XT.objClone, .selects "[I" ⟨"[I", "clone", "()Ljava/lang/Object;"⟩ Jvm.Free.XT.objClone, .castable "[I" "java/lang/Cloneable", .methodLink "java/util/Arrays" 304 Jvm.Free.JP.Math_min_II.yN, .static Jvm.Free.JP.Math_min_II.yN, .methodLink "java/util/Arrays" 150 Jvm.Stand.acN, .native Jvm.Stand.acN, .static Jvm.Stand.acN, .initialized "java/lang/System"] : List Jvm.Cond) := hd
  simp only [List.mem_cons, List.not_mem_nil, or_false] at hd
  rcases hd with rfl | rfl | rfl | rfl | rfl | rfl | rfl | rfl | rfl | rfl | rfl | rfl | rfl | rfl | rfl | rfl
  · exact mvT hZ (hw _ (List.mem_of_getElem? (i := 54) rfl))
  · exact mvT hZ (hw _ (List.mem_of_getElem? (i := 55) rfl))
  · exact mvA hZ (hw _ (List.mem_of_getElem? (i := 6) rfl))
  · exact Jvm.Free.XT.unparts (mvT hZ (hw _ (List.mem_of_getElem? (i := 37) rfl))) (fun d hd => by
      replace hd : d ∈ ([.initialized "java/lang/Math"] : List Jvm.Cond) := hd
      simp only [List.mem_cons, List.not_mem_nil, or_false] at hd
      subst hd
      exact mvT hZ (hw _ (List.mem_of_getElem? (i := 36) rfl)))
  · exact mvT hZ (hw _ (List.mem_of_getElem? (i := 47) rfl))
  · exact mvT hZ (hw _ (List.mem_of_getElem? (i := 48) rfl))
  · exact mvT hZ (hw _ (List.mem_of_getElem? (i := 52) rfl))
  · exact mvT hZ (hw _ (List.mem_of_getElem? (i := 50) rfl))
  · exact mvT hZ (hw _ (List.mem_of_getElem? (i := 51) rfl))
  · exact mvT hZ (hw _ (List.mem_of_getElem? (i := 53) rfl))
  · exact mvT hZ (hw _ (List.mem_of_getElem? (i := 34) rfl))
  · exact mvT hZ (hw _ (List.mem_of_getElem? (i := 35) rfl))
  · exact mvT hZ (hw _ (List.mem_of_getElem? (i := 38) rfl))
  · exact mvT hZ (hw _ (List.mem_of_getElem? (i := 41) rfl))
  · exact mvT hZ (hw _ (List.mem_of_getElem? (i := 39) rfl))
  · exact mvT hZ (hw _ (List.mem_of_getElem? (i := 40) rfl))
/-- a set of m points: f i for i < m -/
def own_DS (Z : State) (h : Heap) (d : Addr) (m : Nat) (f : Nat → Int32) : Prop :=
  Exa Z h d "com/example/irwell/irwell/tableau/DependencySet" ∧ ∃ pa, Fld Z h d "com/example/irwell/irwell/tableau/DependencySet" "points" "[I" (.ref pa) ∧ oArr Z h pa .int m (fun i => .int (f i)) ∧ Exa Z h pa "[I"
theorem own_DS.ext {Z : State} {h h' : Heap} {d : Addr} {m : Nat} {f : Nat → Int32} (S : own_DS Z h d m f) (E : Ext h h') : own_DS Z h' d m f := by
  obtain ⟨S1, pa, S2, S3, S4⟩ := S
  exact ⟨S1.ext E, pa, S2.ext E, S3.ext E, S4.ext E⟩
theorem own_DS.congr {Z : State} {h : Heap} {d : Addr} {m : Nat} {f g : Nat → Int32} (S : own_DS Z h d m f) (E : ∀ i, i < m → f i = g i) : own_DS Z h d m g := by
  obtain ⟨S1, pa, S2, S3, S4⟩ := S
  exact ⟨S1, pa, S2, S3.congr fun i hi => by rw [E i hi], S4⟩
theorem d1_0 : decode jdk_29_method_69_code 0 = .ok (.iload_n 0, 1) := by decide +kernel
theorem d1_1 : decode jdk_29_method_69_code 1 = .ok (.iload_n 1, 1) := by decide +kernel
theorem d1_2 : decode jdk_29_method_69_code 2 = .ok (.if_icmp .gt 7, 3) := by decide +kernel
theorem d1_5 : decode jdk_29_method_69_code 5 = .ok (.iload_n 0, 1) := by decide +kernel
theorem d1_6 : decode jdk_29_method_69_code 6 = .ok (.goto 4, 3) := by decide +kernel
theorem d1_9 : decode jdk_29_method_69_code 9 = .ok (.iload_n 1, 1) := by decide +kernel
theorem d1_10 : decode jdk_29_method_69_code 10 = .ok (.ireturn, 1) := by decide +kernel
abbrev b1 : oBd := (⟨"java/lang/Math", "min", "(II)I"⟩, jdk_29_method_69_code, 2, (some .int), { frames := 0, cells := 0, slots := 0, locals := 0 })
theorem pd1 : parseMethodDescriptor "(II)I" = some ⟨[.int, .int], some .int⟩ := by decide +kernel
theorem pn1 : plainFor b1.y = true := Jvm.Free.JP.mathPlain rfl (by decide +kernel)
theorem d2_0 : decode jdk_29_method_65_code 0 = .ok (.iload_n 0, 1) := by decide +kernel
theorem d2_1 : decode jdk_29_method_65_code 1 = .ok (.iload_n 1, 1) := by decide +kernel
theorem d2_2 : decode jdk_29_method_65_code 2 = .ok (.if_icmp .lt 7, 3) := by decide +kernel
theorem d2_5 : decode jdk_29_method_65_code 5 = .ok (.iload_n 0, 1) := by decide +kernel
theorem d2_6 : decode jdk_29_method_65_code 6 = .ok (.goto 4, 3) := by decide +kernel
theorem d2_9 : decode jdk_29_method_65_code 9 = .ok (.iload_n 1, 1) := by decide +kernel
theorem d2_10 : decode jdk_29_method_65_code 10 = .ok (.ireturn, 1) := by decide +kernel
abbrev b2 : oBd := (⟨"java/lang/Math", "max", "(II)I"⟩, jdk_29_method_65_code, 2, (some .int), { frames := 0, cells := 0, slots := 0, locals := 0 })
theorem pd2 : parseMethodDescriptor "(II)I" = some ⟨[.int, .int], some .int⟩ := by decide +kernel
theorem pn2 : plainFor b2.y = true := Jvm.Free.JP.mathPlain rfl (by decide +kernel)
theorem d3_0 : decode prog_1_method_1_code 0 = .ok (.aload_n 0, 1) := by decide +kernel
theorem d3_1 : decode prog_1_method_1_code 1 = .ok (.invokespecial 1, 3) := by decide +kernel
theorem d3_4 : decode prog_1_method_1_code 4 = .ok (.aload_n 0, 1) := by decide +kernel
theorem d3_5 : decode prog_1_method_1_code 5 = .ok (.aload_n 1, 1) := by decide +kernel
theorem d3_6 : decode prog_1_method_1_code 6 = .ok (.putfield 7, 3) := by decide +kernel
theorem d3_9 : decode prog_1_method_1_code 9 = .ok (.return_, 1) := by decide +kernel
abbrev b3 : oBd := (⟨"com/example/irwell/irwell/tableau/DependencySet", "<init>", "([I)V"⟩, prog_1_method_1_code, 2, none, { frames := 1, cells := 0, slots := 0, locals := 12 })
theorem pd3 : parseMethodDescriptor "([I)V" = some ⟨[(.array .int)], none⟩ := by decide +kernel
theorem pn3 : plainFor b3.y = true := plainFor_of_name (by first | (simp [plainName, overriddenIn]; done) | decide +kernel)
theorem d4_0 : decode prog_1_method_2_code 0 = .ok (.new 8, 3) := by decide +kernel
theorem d4_3 : decode prog_1_method_2_code 3 = .ok (.dup, 1) := by decide +kernel
theorem d4_4 : decode prog_1_method_2_code 4 = .ok (.iconst 1, 1) := by decide +kernel
theorem d4_5 : decode prog_1_method_2_code 5 = .ok (.newarray .int, 2) := by decide +kernel
theorem d4_7 : decode prog_1_method_2_code 7 = .ok (.dup, 1) := by decide +kernel
theorem d4_8 : decode prog_1_method_2_code 8 = .ok (.iconst 0, 1) := by decide +kernel
theorem d4_9 : decode prog_1_method_2_code 9 = .ok (.iload_n 0, 1) := by decide +kernel
theorem d4_10 : decode prog_1_method_2_code 10 = .ok (.iastore, 1) := by decide +kernel
theorem d4_11 : decode prog_1_method_2_code 11 = .ok (.invokespecial 13, 3) := by decide +kernel
theorem d4_14 : decode prog_1_method_2_code 14 = .ok (.areturn, 1) := by decide +kernel
abbrev b4 : oBd := (⟨"com/example/irwell/irwell/tableau/DependencySet", "of", "(I)Lcom/example/irwell/irwell/tableau/DependencySet;"⟩, prog_1_method_2_code, 1, (some (.object "com/example/irwell/irwell/tableau/DependencySet")), { frames := 2, cells := 2, slots := 2, locals := 26 })
theorem pd4 : parseMethodDescriptor "(I)Lcom/example/irwell/irwell/tableau/DependencySet;" = some ⟨[.int], some (.object "com/example/irwell/irwell/tableau/DependencySet")⟩ := by decide +kernel
theorem pn4 : plainFor b4.y = true := plainFor_of_name (by first | (simp [plainName, overriddenIn]; done) | decide +kernel)
theorem d5_0 : decode prog_1_method_3_code 0 = .ok (.aload_n 0, 1) := by decide +kernel
theorem d5_1 : decode prog_1_method_3_code 1 = .ok (.getfield 7, 3) := by decide +kernel
theorem d5_4 : decode prog_1_method_3_code 4 = .ok (.arraylength, 1) := by decide +kernel
theorem d5_5 : decode prog_1_method_3_code 5 = .ok (.ifCond .ne 7, 3) := by decide +kernel
theorem d5_8 : decode prog_1_method_3_code 8 = .ok (.iconst 1, 1) := by decide +kernel
theorem d5_9 : decode prog_1_method_3_code 9 = .ok (.goto 4, 3) := by decide +kernel
theorem d5_12 : decode prog_1_method_3_code 12 = .ok (.iconst 0, 1) := by decide +kernel
theorem d5_13 : decode prog_1_method_3_code 13 = .ok (.ireturn, 1) := by decide +kernel
abbrev b5 : oBd := (⟨"com/example/irwell/irwell/tableau/DependencySet", "isEmpty", "()Z"⟩, prog_1_method_3_code, 1, (some .boolean), { frames := 0, cells := 0, slots := 0, locals := 0 })
theorem pd5 : parseMethodDescriptor "()Z" = some ⟨[], some .boolean⟩ := by decide +kernel
theorem pn5 : plainFor b5.y = true := plainFor_of_name (by first | (simp [plainName, overriddenIn]; done) | decide +kernel)
theorem d6_0 : decode prog_1_method_4_code 0 = .ok (.aload_n 0, 1) := by decide +kernel
theorem d6_1 : decode prog_1_method_4_code 1 = .ok (.getfield 7, 3) := by decide +kernel
theorem d6_4 : decode prog_1_method_4_code 4 = .ok (.aload_n 0, 1) := by decide +kernel
theorem d6_5 : decode prog_1_method_4_code 5 = .ok (.getfield 7, 3) := by decide +kernel
theorem d6_8 : decode prog_1_method_4_code 8 = .ok (.arraylength, 1) := by decide +kernel
theorem d6_9 : decode prog_1_method_4_code 9 = .ok (.iconst 1, 1) := by decide +kernel
theorem d6_10 : decode prog_1_method_4_code 10 = .ok (.isub, 1) := by decide +kernel
theorem d6_11 : decode prog_1_method_4_code 11 = .ok (.iaload, 1) := by decide +kernel
theorem d6_12 : decode prog_1_method_4_code 12 = .ok (.ireturn, 1) := by decide +kernel
abbrev b6 : oBd := (⟨"com/example/irwell/irwell/tableau/DependencySet", "last", "()I"⟩, prog_1_method_4_code, 1, (some .int), { frames := 0, cells := 0, slots := 0, locals := 0 })
theorem pd6 : parseMethodDescriptor "()I" = some ⟨[], some .int⟩ := by decide +kernel
theorem pn6 : plainFor b6.y = true := plainFor_of_name (by first | (simp [plainName, overriddenIn]; done) | decide +kernel)
theorem d7_0 : decode prog_1_method_6_code 0 = .ok (.new 8, 3) := by decide +kernel
theorem d7_3 : decode prog_1_method_6_code 3 = .ok (.dup, 1) := by decide +kernel
theorem d7_4 : decode prog_1_method_6_code 4 = .ok (.aload_n 0, 1) := by decide +kernel
theorem d7_5 : decode prog_1_method_6_code 5 = .ok (.getfield 7, 3) := by decide +kernel
theorem d7_8 : decode prog_1_method_6_code 8 = .ok (.aload_n 0, 1) := by decide +kernel
theorem d7_9 : decode prog_1_method_6_code 9 = .ok (.getfield 7, 3) := by decide +kernel
theorem d7_12 : decode prog_1_method_6_code 12 = .ok (.arraylength, 1) := by decide +kernel
theorem d7_13 : decode prog_1_method_6_code 13 = .ok (.iconst 1, 1) := by decide +kernel
theorem d7_14 : decode prog_1_method_6_code 14 = .ok (.isub, 1) := by decide +kernel
theorem d7_15 : decode prog_1_method_6_code 15 = .ok (.invokestatic 16, 3) := by decide +kernel
theorem d7_18 : decode prog_1_method_6_code 18 = .ok (.invokespecial 13, 3) := by decide +kernel
theorem d7_21 : decode prog_1_method_6_code 21 = .ok (.areturn, 1) := by decide +kernel
abbrev b7 : oBd := (⟨"com/example/irwell/irwell/tableau/DependencySet", "withoutLast", "()Lcom/example/irwell/irwell/tableau/DependencySet;"⟩, prog_1_method_6_code, 1, (some (.object "com/example/irwell/irwell/tableau/DependencySet")), { frames := 2, cells := 2, slots := 2, locals := 56 })
theorem pd7 : parseMethodDescriptor "()Lcom/example/irwell/irwell/tableau/DependencySet;" = some ⟨[], some (.object "com/example/irwell/irwell/tableau/DependencySet")⟩ := by decide +kernel
theorem pn7 : plainFor b7.y = true := plainFor_of_name (by first | (simp [plainName, overriddenIn]; done) | decide +kernel)
theorem d8_0 : decode prog_1_method_5_code 0 = .ok (.aload_n 1, 1) := by decide +kernel
theorem d8_1 : decode prog_1_method_5_code 1 = .ok (.getfield 7, 3) := by decide +kernel
theorem d8_4 : decode prog_1_method_5_code 4 = .ok (.arraylength, 1) := by decide +kernel
theorem d8_5 : decode prog_1_method_5_code 5 = .ok (.ifCond .eq 8, 3) := by decide +kernel
theorem d8_8 : decode prog_1_method_5_code 8 = .ok (.aload_n 1, 1) := by decide +kernel
theorem d8_9 : decode prog_1_method_5_code 9 = .ok (.aload_n 0, 1) := by decide +kernel
theorem d8_10 : decode prog_1_method_5_code 10 = .ok (.if_acmp .ne 8, 3) := by decide +kernel
theorem d8_13 : decode prog_1_method_5_code 13 = .ok (.aload_n 0, 1) := by decide +kernel
theorem d8_14 : decode prog_1_method_5_code 14 = .ok (.astore_n 2, 1) := by decide +kernel
theorem d8_15 : decode prog_1_method_5_code 15 = .ok (.goto 174, 3) := by decide +kernel
theorem d8_18 : decode prog_1_method_5_code 18 = .ok (.aload_n 0, 1) := by decide +kernel
theorem d8_19 : decode prog_1_method_5_code 19 = .ok (.getfield 7, 3) := by decide +kernel
theorem d8_22 : decode prog_1_method_5_code 22 = .ok (.arraylength, 1) := by decide +kernel
theorem d8_23 : decode prog_1_method_5_code 23 = .ok (.ifCond .ne 8, 3) := by decide +kernel
theorem d8_26 : decode prog_1_method_5_code 26 = .ok (.aload_n 1, 1) := by decide +kernel
theorem d8_27 : decode prog_1_method_5_code 27 = .ok (.astore_n 2, 1) := by decide +kernel
theorem d8_28 : decode prog_1_method_5_code 28 = .ok (.goto 161, 3) := by decide +kernel
theorem d8_31 : decode prog_1_method_5_code 31 = .ok (.aload_n 0, 1) := by decide +kernel
theorem d8_32 : decode prog_1_method_5_code 32 = .ok (.getfield 7, 3) := by decide +kernel
theorem d8_35 : decode prog_1_method_5_code 35 = .ok (.arraylength, 1) := by decide +kernel
theorem d8_36 : decode prog_1_method_5_code 36 = .ok (.aload_n 1, 1) := by decide +kernel
theorem d8_37 : decode prog_1_method_5_code 37 = .ok (.getfield 7, 3) := by decide +kernel
theorem d8_40 : decode prog_1_method_5_code 40 = .ok (.arraylength, 1) := by decide +kernel
theorem d8_41 : decode prog_1_method_5_code 41 = .ok (.iadd, 1) := by decide +kernel
theorem d8_42 : decode prog_1_method_5_code 42 = .ok (.newarray .int, 2) := by decide +kernel
theorem d8_44 : decode prog_1_method_5_code 44 = .ok (.astore_n 3, 1) := by decide +kernel
theorem d8_45 : decode prog_1_method_5_code 45 = .ok (.iconst 0, 1) := by decide +kernel
theorem d8_46 : decode prog_1_method_5_code 46 = .ok (.istore 4, 2) := by decide +kernel
theorem d8_48 : decode prog_1_method_5_code 48 = .ok (.iconst 0, 1) := by decide +kernel
theorem d8_49 : decode prog_1_method_5_code 49 = .ok (.istore 5, 2) := by decide +kernel
theorem d8_51 : decode prog_1_method_5_code 51 = .ok (.iconst 0, 1) := by decide +kernel
theorem d8_52 : decode prog_1_method_5_code 52 = .ok (.istore 6, 2) := by decide +kernel
theorem d8_54 : decode prog_1_method_5_code 54 = .ok (.iload 5, 2) := by decide +kernel
theorem d8_56 : decode prog_1_method_5_code 56 = .ok (.aload_n 0, 1) := by decide +kernel
theorem d8_57 : decode prog_1_method_5_code 57 = .ok (.getfield 7, 3) := by decide +kernel
theorem d8_60 : decode prog_1_method_5_code 60 = .ok (.arraylength, 1) := by decide +kernel
theorem d8_61 : decode prog_1_method_5_code 61 = .ok (.if_icmp .lt 13, 3) := by decide +kernel
theorem d8_64 : decode prog_1_method_5_code 64 = .ok (.iload 6, 2) := by decide +kernel
theorem d8_66 : decode prog_1_method_5_code 66 = .ok (.aload_n 1, 1) := by decide +kernel
theorem d8_67 : decode prog_1_method_5_code 67 = .ok (.getfield 7, 3) := by decide +kernel
theorem d8_70 : decode prog_1_method_5_code 70 = .ok (.arraylength, 1) := by decide +kernel
theorem d8_71 : decode prog_1_method_5_code 71 = .ok (.if_icmp .ge 104, 3) := by decide +kernel
theorem d8_74 : decode prog_1_method_5_code 74 = .ok (.iload 6, 2) := by decide +kernel
theorem d8_76 : decode prog_1_method_5_code 76 = .ok (.aload_n 1, 1) := by decide +kernel
theorem d8_77 : decode prog_1_method_5_code 77 = .ok (.getfield 7, 3) := by decide +kernel
theorem d8_80 : decode prog_1_method_5_code 80 = .ok (.arraylength, 1) := by decide +kernel
theorem d8_81 : decode prog_1_method_5_code 81 = .ok (.if_icmp .eq 30, 3) := by decide +kernel
theorem d8_84 : decode prog_1_method_5_code 84 = .ok (.iload 5, 2) := by decide +kernel
theorem d8_86 : decode prog_1_method_5_code 86 = .ok (.aload_n 0, 1) := by decide +kernel
theorem d8_87 : decode prog_1_method_5_code 87 = .ok (.getfield 7, 3) := by decide +kernel
theorem d8_90 : decode prog_1_method_5_code 90 = .ok (.arraylength, 1) := by decide +kernel
theorem d8_91 : decode prog_1_method_5_code 91 = .ok (.if_icmp .ge 35, 3) := by decide +kernel
theorem d8_94 : decode prog_1_method_5_code 94 = .ok (.aload_n 0, 1) := by decide +kernel
theorem d8_95 : decode prog_1_method_5_code 95 = .ok (.getfield 7, 3) := by decide +kernel
theorem d8_98 : decode prog_1_method_5_code 98 = .ok (.iload 5, 2) := by decide +kernel
theorem d8_100 : decode prog_1_method_5_code 100 = .ok (.iaload, 1) := by decide +kernel
theorem d8_101 : decode prog_1_method_5_code 101 = .ok (.aload_n 1, 1) := by decide +kernel
theorem d8_102 : decode prog_1_method_5_code 102 = .ok (.getfield 7, 3) := by decide +kernel
theorem d8_105 : decode prog_1_method_5_code 105 = .ok (.iload 6, 2) := by decide +kernel
theorem d8_107 : decode prog_1_method_5_code 107 = .ok (.iaload, 1) := by decide +kernel
theorem d8_108 : decode prog_1_method_5_code 108 = .ok (.if_icmp .ge 18, 3) := by decide +kernel
theorem d8_111 : decode prog_1_method_5_code 111 = .ok (.aload_n 0, 1) := by decide +kernel
theorem d8_112 : decode prog_1_method_5_code 112 = .ok (.getfield 7, 3) := by decide +kernel
theorem d8_115 : decode prog_1_method_5_code 115 = .ok (.iload 5, 2) := by decide +kernel
theorem d8_117 : decode prog_1_method_5_code 117 = .ok (.iinc 5 1, 3) := by decide +kernel
theorem d8_120 : decode prog_1_method_5_code 120 = .ok (.iaload, 1) := by decide +kernel
theorem d8_121 : decode prog_1_method_5_code 121 = .ok (.istore 7, 2) := by decide +kernel
theorem d8_123 : decode prog_1_method_5_code 123 = .ok (.goto 40, 3) := by decide +kernel
theorem d8_126 : decode prog_1_method_5_code 126 = .ok (.aload_n 1, 1) := by decide +kernel
theorem d8_127 : decode prog_1_method_5_code 127 = .ok (.getfield 7, 3) := by decide +kernel
theorem d8_130 : decode prog_1_method_5_code 130 = .ok (.iload 6, 2) := by decide +kernel
theorem d8_132 : decode prog_1_method_5_code 132 = .ok (.iinc 6 1, 3) := by decide +kernel
theorem d8_135 : decode prog_1_method_5_code 135 = .ok (.iaload, 1) := by decide +kernel
theorem d8_136 : decode prog_1_method_5_code 136 = .ok (.istore 7, 2) := by decide +kernel
theorem d8_138 : decode prog_1_method_5_code 138 = .ok (.iload 5, 2) := by decide +kernel
theorem d8_140 : decode prog_1_method_5_code 140 = .ok (.aload_n 0, 1) := by decide +kernel
theorem d8_141 : decode prog_1_method_5_code 141 = .ok (.getfield 7, 3) := by decide +kernel
theorem d8_144 : decode prog_1_method_5_code 144 = .ok (.arraylength, 1) := by decide +kernel
theorem d8_145 : decode prog_1_method_5_code 145 = .ok (.if_icmp .ge 18, 3) := by decide +kernel
theorem d8_148 : decode prog_1_method_5_code 148 = .ok (.aload_n 0, 1) := by decide +kernel
theorem d8_149 : decode prog_1_method_5_code 149 = .ok (.getfield 7, 3) := by decide +kernel
theorem d8_152 : decode prog_1_method_5_code 152 = .ok (.iload 5, 2) := by decide +kernel
theorem d8_154 : decode prog_1_method_5_code 154 = .ok (.iaload, 1) := by decide +kernel
theorem d8_155 : decode prog_1_method_5_code 155 = .ok (.iload 7, 2) := by decide +kernel
theorem d8_157 : decode prog_1_method_5_code 157 = .ok (.if_icmp .ne 6, 3) := by decide +kernel
theorem d8_160 : decode prog_1_method_5_code 160 = .ok (.iinc 5 1, 3) := by decide +kernel
theorem d8_163 : decode prog_1_method_5_code 163 = .ok (.aload_n 3, 1) := by decide +kernel
theorem d8_164 : decode prog_1_method_5_code 164 = .ok (.iload 4, 2) := by decide +kernel
theorem d8_166 : decode prog_1_method_5_code 166 = .ok (.iinc 4 1, 3) := by decide +kernel
theorem d8_169 : decode prog_1_method_5_code 169 = .ok (.iload 7, 2) := by decide +kernel
theorem d8_171 : decode prog_1_method_5_code 171 = .ok (.iastore, 1) := by decide +kernel
theorem d8_172 : decode prog_1_method_5_code 172 = .ok (.goto (-118), 3) := by decide +kernel
theorem d8_175 : decode prog_1_method_5_code 175 = .ok (.new 8, 3) := by decide +kernel
theorem d8_178 : decode prog_1_method_5_code 178 = .ok (.dup, 1) := by decide +kernel
theorem d8_179 : decode prog_1_method_5_code 179 = .ok (.aload_n 3, 1) := by decide +kernel
theorem d8_180 : decode prog_1_method_5_code 180 = .ok (.iload 4, 2) := by decide +kernel
theorem d8_182 : decode prog_1_method_5_code 182 = .ok (.invokestatic 16, 3) := by decide +kernel
theorem d8_185 : decode prog_1_method_5_code 185 = .ok (.invokespecial 13, 3) := by decide +kernel
theorem d8_188 : decode prog_1_method_5_code 188 = .ok (.astore_n 2, 1) := by decide +kernel
theorem d8_189 : decode prog_1_method_5_code 189 = .ok (.aload_n 2, 1) := by decide +kernel
theorem d8_190 : decode prog_1_method_5_code 190 = .ok (.areturn, 1) := by decide +kernel
abbrev b8 : oBd := (⟨"com/example/irwell/irwell/tableau/DependencySet", "union", "(Lcom/example/irwell/irwell/tableau/DependencySet;)Lcom/example/irwell/irwell/tableau/DependencySet;"⟩, prog_1_method_5_code, 8, (some (.object "com/example/irwell/irwell/tableau/DependencySet")), { frames := 2, cells := 3, slots := 5, locals := 56 })
theorem pd8 : parseMethodDescriptor "(Lcom/example/irwell/irwell/tableau/DependencySet;)Lcom/example/irwell/irwell/tableau/DependencySet;" = some ⟨[(.object "com/example/irwell/irwell/tableau/DependencySet")], some (.object "com/example/irwell/irwell/tableau/DependencySet")⟩ := by decide +kernel
theorem pn8 : plainFor b8.y = true := plainFor_of_name (by first | (simp [plainName, overriddenIn]; done) | decide +kernel)
abbrev b0 : oBd := (x, code, maxLocals, ret, room_1)
theorem pd0 : parseMethodDescriptor "(II)Z" = some ⟨[.int, .int], some .boolean⟩ := by decide +kernel
theorem pn0 : plainFor b0.y = true := plainFor_of_name (by first | (simp [plainName, overriddenIn]; done) | decide +kernel)
set_option maxRecDepth 65536 in
set_option maxHeartbeats 40000000 in
theorem rm1 (l : Launch) (Z : State) (a0 : Array Value) (hw : ∀ d ∈ tables_1, d.before a0 Z = true) (x y : Int32) (h0 : Heap) (n0 : Nat) :
    oMet l b1 [] Z n0 #[.int x, .int y] h0 (fun v h' => v = some (.int (if y < x then y else x)) ∧ h' = h0) := by
  refine o_enter pn1 (Ls := #[.val (.int x), .val (.int y)]) (fun m => by first | (simp [entryFrame, mkF, argsToLocals, Value.category, oBd.maxL, b1]; done) | rfl) ?_
  intro w T0 A0
  refine o_iloadN (q := 1) A0 d1_0 rfl rfl ?_
  refine o_iloadN (q := 2) A0 d1_1 rfl rfl ?_
  refine o_icmp (q := 9) (q' := 5) A0 d1_2 (by decide) (by decide) rfl (fun hc => ?_) (fun hc => ?_)
  · replace hc : y < x := hc
    refine o_iloadN (q := 10) A0 d1_9 rfl rfl ?_
    exact o_retI A0 rfl d1_10 (by decide) (by decide) ⟨by rw [if_pos hc], rfl⟩
  · replace hc : ¬ (y < x) := hc
    refine o_iloadN (q := 6) A0 d1_5 rfl rfl ?_
    refine o_goto (q := 10) A0 d1_6 (by decide) (by decide) ?_
    exact o_retI A0 rfl d1_10 (by decide) (by decide) ⟨by rw [if_neg hc], rfl⟩
set_option maxRecDepth 65536 in
set_option maxHeartbeats 40000000 in
theorem rm2 (l : Launch) (Z : State) (a0 : Array Value) (hw : ∀ d ∈ tables_1, d.before a0 Z = true) (x y : Int32) (h0 : Heap) (n0 : Nat) :
    oMet l b2 [] Z n0 #[.int x, .int y] h0 (fun v h' => v = some (.int (if x < y then y else x)) ∧ h' = h0) := by
  refine o_enter pn2 (Ls := #[.val (.int x), .val (.int y)]) (fun m => by first | (simp [entryFrame, mkF, argsToLocals, Value.category, oBd.maxL, b2]; done) | rfl) ?_
  intro w T0 A0
  refine o_iloadN (q := 1) A0 d2_0 rfl rfl ?_
  refine o_iloadN (q := 2) A0 d2_1 rfl rfl ?_
  refine o_icmp (q := 9) (q' := 5) A0 d2_2 (by decide) (by decide) rfl (fun hc => ?_) (fun hc => ?_)
  · replace hc : x < y := hc
    refine o_iloadN (q := 10) A0 d2_9 rfl rfl ?_
    exact o_retI A0 rfl d2_10 (by decide) (by decide) ⟨by rw [if_pos hc], rfl⟩
  · replace hc : ¬ (x < y) := hc
    refine o_iloadN (q := 6) A0 d2_5 rfl rfl ?_
    refine o_goto (q := 10) A0 d2_6 (by decide) (by decide) ?_
    exact o_retI A0 rfl d2_10 (by decide) (by decide) ⟨by rw [if_neg hc], rfl⟩
set_option maxRecDepth 65536 in
set_option maxHeartbeats 40000000 in
theorem rm3 (l : Launch) (Z : State) (a0 : Array Value) (hw : ∀ d ∈ tables_1, d.before a0 Z = true) (d pa : Addr) (h0 : Heap) (n0 : Nat) (E : Exa Z h0 d "com/example/irwell/irwell/tableau/DependencySet") (F : Fld Z h0 d "com/example/irwell/irwell/tableau/DependencySet" "points" "[I" .null) (gd : n0 ≤ d) :
    oMet l b3 [] Z n0 #[.ref d, .ref pa] h0 (fun v h' => v = none ∧ Keep h0 h' [d] ∧ Exa Z h' d "com/example/irwell/irwell/tableau/DependencySet" ∧ Fld Z h' d "com/example/irwell/irwell/tableau/DependencySet" "points" "[I" (.ref pa)) := by
  refine o_enter pn3 (Ls := #[.val (.ref d), .val (.ref pa)]) (fun m => by first | (simp [entryFrame, mkF, argsToLocals, Value.category, oBd.maxL, b3]; done) | rfl) ?_
  intro w T0 A0
  refine o_aloadN (q := 1) A0 d3_0 rfl rfl rfl ?_
  refine o_initO (q := 4) (W := 0) A0 d3_1 (hw _ (List.mem_of_getElem? (i := 10) rfl)) (hw _ (List.mem_of_getElem? (i := 11) rfl)) (hw _ (List.mem_of_getElem? (i := 12) rfl)) rfl (by decide) rfl (by decide) rfl (fun T1 A1 => ?_)
  refine o_aloadN (q := 5) A1 d3_4 rfl rfl rfl ?_
  refine o_aloadN (q := 6) A1 d3_5 rfl rfl rfl ?_
  refine o_putF (q := 9) A1 d3_6 (hw _ (List.mem_of_getElem? (i := 13) rfl)) F E (Or.inr ⟨(hw _ (List.mem_of_getElem? (i := 14) rfl)), rfl, rfl⟩) (hw _ (List.mem_of_getElem? (i := 5) rfl)) (ty := .array .int) (by decide) rfl rfl gd rfl (fun T2 h2 A2 W2 => ?_)
  exact o_retV A2 rfl d3_9 (by decide) (by decide) ⟨rfl, (Keep.refl h0 [d]).wr W2 (Or.inl (List.mem_of_getElem? (i := 0) rfl)), E.wr W2, F.same W2⟩
set_option maxRecDepth 65536 in
set_option maxHeartbeats 40000000 in
theorem rm4 (l : Launch) (Z : State) (a0 : Array Value) (hw : ∀ d ∈ tables_1, d.before a0 Z = true) (p : Int32) (h0 : Heap) (n0 : Nat) (Z0 : n0 ≤ h0.size) :
    oMet l b4 [] Z n0 #[.int p] h0 (fun v h' => ∃ d, v = some (.ref d) ∧ h0.size ≤ d ∧ Ext h0 h' ∧ own_DS Z h' d 1 (fun _ => p)) := by
  refine o_enter pn4 (Ls := #[.val (.int p)]) (fun m => by first | (simp [entryFrame, mkF, argsToLocals, Value.category, oBd.maxL, b4]; done) | rfl) ?_
  intro w T0 A0
  refine o_newO (q := 3) (k' := 1) (n' := 1) A0 d4_0 (hw _ (List.mem_of_getElem? (i := 4) rfl)) (hw _ (List.mem_of_getElem? (i := 5) rfl)) (hw _ (List.mem_of_getElem? (i := 2) rfl)) rfl rfl (by decide) (by decide) rfl (fun T1 h1 d gd A1 X1 Ed Dd => ?_)
  have g0d : n0 ≤ d := by rw [gd]; exact Z0
  have Fd : Fld Z h1 d "com/example/irwell/irwell/tableau/DependencySet" "points" "[I" .null := Dd (Or.inr (hw _ (List.mem_of_getElem? (i := 14) rfl))) (ty := .array .int) (by decide)
  refine o_dup (q := 4) A1 d4_3 rfl rfl ?_
  refine o_iconst (q := 5) (z := 1) A1 d4_4 rfl rfl ?_
  refine o_newarr (q := 7) (k' := 2) (n' := 2) (m := 1) (cap := 1) A1 d4_5 rfl (hw _ (List.mem_of_getElem? (i := 6) rfl)) (by decide) (by decide) (by decide) rfl rfl (by decide) (by decide) rfl rfl (fun T3 h3 pa gpa A3 X3 Vpa Epa => ?_)
  have npd : d ≠ pa := by rw [gpa]; exact Nat.ne_of_lt Ed.lt
  have g0p : n0 ≤ pa := by rw [gpa]; exact Nat.le_trans Z0 X1.1
  refine o_dup (q := 8) A3 d4_7 rfl rfl ?_
  refine o_iconst (q := 9) (z := 0) A3 d4_8 rfl rfl ?_
  refine o_iloadN (q := 10) A3 d4_9 rfl rfl ?_
  refine o_iastore (q := 11) (m := 1) (i := 0) A3 d4_10 Vpa (by decide) (by decide) g0p rfl (fun T4 h4 A4 W4 => ?_)
  have V3 : oArr Z h4 pa .int 1 (fun i => .int ((fun _ => p : Nat → Int32) i)) := (Vpa.same W4).congr fun i hi => by rw [show i = 0 by omega]; rfl
  have E3 := Epa.wr W4
  have Ed3 := (Ed.ext X3).wr W4
  have Fd3 := (Fd.ext X3).other W4 (Or.inl npd)
  have X3 : Ext h0 h4 := o_exwr (o_extr X1 X3) W4 (by rw [gpa]; exact X1.1)
  refine o_callC (q := 14) (W := 1) (k' := 2) (n' := 2) (st := [.ref d]) (argsL := [.ref pa]) (b' := b3) (a := d) A4 (rm3 l Z a0 hw d pa h4 n0 Ed3 Fd3 g0d) d4_11 rfl (hw _ (List.mem_of_getElem? (i := 7) rfl)) (hw _ (List.mem_of_getElem? (i := 8) rfl)) (hw _ (List.mem_of_getElem? (i := 2) rfl)) (hw _ (List.mem_of_getElem? (i := 9) rfl)) rfl (by decide) pd3 rfl rfl rfl rfl rfl (by decide) (by decide) rfl rfl (by decide) (by decide) rfl (fun v5 T5 h5 A5 hQ5 => ?_)
  obtain ⟨rfl, Kc, Ec, Fc⟩ := hQ5
  show oFin _ _ _ _ T5 14 #[.val (.int p)] [.ref d]
  have npd2 : pa ∉ [d] := ninS (Ne.symm npd) nin0
  exact o_retA A5 rfl rfl rfl d4_14 (by decide) (by decide) ⟨d, rfl, by rw [gd]; exact Nat.le_refl _, o_ext ((show Keep h0 h4 [] from ⟨X3.1, fun x c q _ => X3.2 x c q, fun x c q => ⟨c, X3.2 x c q, rfl, rfl, rfl⟩⟩).trans Kc (fun x hx => by cases List.mem_singleton.mp hx; exact Or.inr (by rw [gd]; exact Nat.le_refl _))), Ec, pa, Fc, V3.keep Kc npd2, E3.keep Kc⟩
set_option maxRecDepth 65536 in
set_option maxHeartbeats 40000000 in
theorem rm5 (l : Launch) (Z : State) (a0 : Array Value) (hw : ∀ d ∈ tables_1, d.before a0 Z = true) (d : Addr) (m : Nat) (f : Nat → Int32) (h0 : Heap) (n0 : Nat) (S : own_DS Z h0 d m f) (hm : m < 100) :
    oMet l b5 [] Z n0 #[.ref d] h0 (fun v h' => v = some (.int (if m = 0 then 1 else 0)) ∧ h' = h0) := by
  refine o_enter pn5 (Ls := #[.val (.ref d)]) (fun m => by first | (simp [entryFrame, mkF, argsToLocals, Value.category, oBd.maxL, b5]; done) | rfl) ?_
  intro w T0 A0
  obtain ⟨S1, pa, S2, S3, S4⟩ := S
  have km : m.toInt32.toInt = (m : Int) := Int32.toInt_ofNat_of_lt (by omega)
  refine o_aloadN (q := 1) A0 d5_0 rfl rfl rfl ?_
  refine o_getF (q := 4) A0 d5_1 (hw _ (List.mem_of_getElem? (i := 13) rfl)) S2 rfl (fun T1 A1 => ?_)
  refine o_arraylength (q := 5) (z := m.toInt32) A1 d5_4 S3 rfl rfl ?_
  refine o_if (q := 12) (q' := 8) A1 d5_5 (by decide) (by decide) rfl (fun hc => ?_) (fun hc => ?_)
  · replace hc : m.toInt32 ≠ (0 : Int32) := hc
    have hm0 : m ≠ 0 := fun e => hc (by rw [e]; rfl)
    refine o_iconst (q := 13) (z := 0) A1 d5_12 rfl rfl ?_
    exact o_retN A1 rfl (by simp) d5_13 (by decide) (by decide) ⟨by rw [if_neg hm0]; rfl, rfl⟩
  · replace hc : ¬ (m.toInt32 ≠ (0 : Int32)) := hc
    have hm0 : m = 0 := by rw [Classical.not_not.mp hc, Int32.toInt_zero] at km; omega
    refine o_iconst (q := 9) (z := 1) A1 d5_8 rfl rfl ?_
    refine o_goto (q := 13) A1 d5_9 (by decide) (by decide) ?_
    exact o_retN A1 rfl (by simp) d5_13 (by decide) (by decide) ⟨by rw [if_pos hm0]; rfl, rfl⟩
set_option maxRecDepth 65536 in
set_option maxHeartbeats 40000000 in
theorem rm6 (l : Launch) (Z : State) (a0 : Array Value) (hw : ∀ d ∈ tables_1, d.before a0 Z = true) (d : Addr) (m : Nat) (f : Nat → Int32) (h0 : Heap) (n0 : Nat) (S : own_DS Z h0 d m f) (hm : m < 100) (hm1 : 1 ≤ m) :
    oMet l b6 [] Z n0 #[.ref d] h0 (fun v h' => v = some (.int (f (m - 1))) ∧ h' = h0) := by
  refine o_enter pn6 (Ls := #[.val (.ref d)]) (fun m => by first | (simp [entryFrame, mkF, argsToLocals, Value.category, oBd.maxL, b6]; done) | rfl) ?_
  intro w T0 A0
  obtain ⟨S1, pa, S2, S3, S4⟩ := S
  have km : m.toInt32.toInt = (m : Int) := Int32.toInt_ofNat_of_lt (by omega)
  have kk : (m.toInt32 - 1).toInt = ((m - 1 : Nat) : Int) := by
    have k1 : (1 : Int32).toInt = 1 := by decide
    rw [Jvm.Kit.i32_sub (by omega) (by omega), km, k1]; omega
  refine o_aloadN (q := 1) A0 d6_0 rfl rfl rfl ?_
  refine o_getF (q := 4) A0 d6_1 (hw _ (List.mem_of_getElem? (i := 13) rfl)) S2 rfl (fun T1 A1 => ?_)
  refine o_aloadN (q := 5) A1 d6_4 rfl rfl rfl ?_
  refine o_getF (q := 8) A1 d6_5 (hw _ (List.mem_of_getElem? (i := 13) rfl)) S2 rfl (fun T2 A2 => ?_)
  refine o_arraylength (q := 9) (z := m.toInt32) A2 d6_8 S3 rfl rfl ?_
  refine o_iconst (q := 10) (z := 1) A2 d6_9 rfl rfl ?_
  refine o_isub (q := 11) A2 d6_10 rfl ?_
  refine o_iaload (q := 12) (m := m) (i := m - 1) (v := .int (f (m - 1))) A2 d6_11 S3 kk (by omega) rfl rfl ?_
  exact o_retI A2 rfl d6_12 (by decide) (by decide) ⟨rfl, rfl⟩
set_option maxRecDepth 65536 in
set_option maxHeartbeats 40000000 in
theorem rm7 (l : Launch) (Z : State) (a0 : Array Value) (hw : ∀ d ∈ tables_1, d.before a0 Z = true) (d : Addr) (m : Nat) (f : Nat → Int32) (h0 : Heap) (n0 : Nat) (Z0 : n0 ≤ h0.size) (S : own_DS Z h0 d m f) (hm1 : 1 ≤ m) (hm2 : m ≤ 2) :
    oMet l b7 [] Z n0 #[.ref d] h0 (fun v h' => ∃ e, v = some (.ref e) ∧ Ext h0 h' ∧ own_DS Z h' e (m - 1) f) := by
  refine o_enter pn7 (Ls := #[.val (.ref d)]) (fun m => by first | (simp [entryFrame, mkF, argsToLocals, Value.category, oBd.maxL, b7]; done) | rfl) ?_
  intro w T0 A0
  obtain ⟨S1, pa, S2, S3, S4⟩ := S
  have km : m.toInt32.toInt = (m : Int) := Int32.toInt_ofNat_of_lt (by omega)
  have kk : Int32.ofNat (m - 1) = m.toInt32 - 1 := by
    rcases (show m = 1 ∨ m = 2 by omega) with rfl | rfl <;> rfl
  refine o_newO (q := 3) (k' := 1) (n' := 1) A0 d7_0 (hw _ (List.mem_of_getElem? (i := 4) rfl)) (hw _ (List.mem_of_getElem? (i := 5) rfl)) (hw _ (List.mem_of_getElem? (i := 2) rfl)) rfl rfl (by decide) (by decide) rfl (fun T1 h1 e ge A1 X1 Ee De => ?_)
  have g0e : n0 ≤ e := by rw [ge]; exact Z0
  have Fe : Fld Z h1 e "com/example/irwell/irwell/tableau/DependencySet" "points" "[I" .null := De (Or.inr (hw _ (List.mem_of_getElem? (i := 14) rfl))) (ty := .array .int) (by decide)
  refine o_dup (q := 4) A1 d7_3 rfl rfl ?_
  refine o_aloadN (q := 5) A1 d7_4 rfl rfl rfl ?_
  refine o_getF (q := 8) A1 d7_5 (hw _ (List.mem_of_getElem? (i := 13) rfl)) (S2.ext X1) rfl (fun T2 A2 => ?_)
  refine o_aloadN (q := 9) A2 d7_8 rfl rfl rfl ?_
  refine o_getF (q := 12) A2 d7_9 (hw _ (List.mem_of_getElem? (i := 13) rfl)) (S2.ext X1) rfl (fun T3 A3 => ?_)
  refine o_arraylength (q := 13) (z := m.toInt32) A3 d7_12 (S3.ext X1) rfl rfl ?_
  refine o_iconst (q := 14) (z := 1) A3 d7_13 rfl rfl ?_
  refine o_isub (q := 15) A3 d7_14 rfl ?_
  refine o_copyOfI (q := 18) (W := 2) (k' := 2) (n' := 1 + (m - 1)) (j := m - 1) A3 d7_15 (S3.ext X1) (S4.ext X1) kk (by omega) (hw _ (List.mem_of_getElem? (i := 30) rfl)) (hw _ (List.mem_of_getElem? (i := 31) rfl)) (hw _ (List.mem_of_getElem? (i := 32) rfl)) (hw _ (List.mem_of_getElem? (i := 33) rfl)) (own_site A3.2.1 hw) rfl rfl (by decide) (by decide) rfl rfl (by decide) (by show _ ≤ 2; omega) rfl (fun T4 h4 r gr A4 X4 Vr Er => ?_)
  have V2 : oArr Z h4 r .int (m - 1) (fun i => .int (f i)) := Vr.congr fun i hi => by rw [if_pos (by omega)]
  have nre : e ≠ r := by rw [gr]; exact Nat.ne_of_lt Ee.lt
  refine o_callC (q := 21) (W := 1) (k' := 2) (n' := 1 + (m - 1)) (st := [.ref e]) (argsL := [.ref r]) (b' := b3) (a := e) A4 (rm3 l Z a0 hw e r h4 n0 (Ee.ext X4) (Fe.ext X4) g0e) d7_18 rfl (hw _ (List.mem_of_getElem? (i := 7) rfl)) (hw _ (List.mem_of_getElem? (i := 8) rfl)) (hw _ (List.mem_of_getElem? (i := 2) rfl)) (hw _ (List.mem_of_getElem? (i := 9) rfl)) rfl (by decide) pd3 rfl rfl rfl rfl rfl (by decide) (by decide) rfl rfl (by decide) (by show _ ≤ 2; omega) rfl (fun v6 T6 h6 A6 hQ6 => ?_)
  obtain ⟨rfl, Kc, Ec, Fc⟩ := hQ6
  show oFin _ _ _ _ T6 21 #[.val (.ref d)] [.ref e]
  have X9 : Ext h0 h4 := o_extr X1 X4
  exact o_retA A6 rfl rfl rfl d7_21 (by decide) (by show _ ≤ 2; omega) ⟨e, rfl, o_ext ((show Keep h0 h4 [] from ⟨X9.1, fun x c q _ => X9.2 x c q, fun x c q => ⟨c, X9.2 x c q, rfl, rfl, rfl⟩⟩).trans Kc (fun x hx => by cases List.mem_singleton.mp hx; exact Or.inr (by rw [ge]; exact Nat.le_refl _))), Ec, r, Fc, V2.keep Kc (ninS (Ne.symm nre) nin0), Er.keep Kc⟩
set_option maxRecDepth 65536 in
set_option maxHeartbeats 40000000 in
theorem rm8 (l : Launch) (Z : State) (a0 : Array Value) (hw : ∀ d ∈ tables_1, d.before a0 Z = true) (c d : Addr) (p q : Int32) (h0 : Heap) (n0 : Nat) (Z0 : n0 ≤ h0.size) (S : own_DS Z h0 c 1 (fun _ => p)) (U : own_DS Z h0 d 1 (fun _ => q)) (ncd : c ≠ d) :
    oMet l b8 [] Z n0 #[.ref c, .ref d] h0 (fun v h' => ∃ u, v = some (.ref u) ∧ Ext h0 h' ∧ ((p = q ∧ own_DS Z h' u 1 (fun _ => p)) ∨ (p < q ∧ own_DS Z h' u 2 (fun i => if i = 0 then p else q)) ∨ (q < p ∧ own_DS Z h' u 2 (fun i => if i = 0 then q else p)))) := by
  refine o_enter pn8 (Ls := #[.val (.ref c), .val (.ref d), .unset, .unset, .unset, .unset, .unset, .unset]) (fun m => by first | (simp [entryFrame, mkF, argsToLocals, Value.category, oBd.maxL, b8]; done) | rfl) ?_
  intro w T0 A0
  obtain ⟨S1, pa, S2, S3, S4⟩ := S
  obtain ⟨U1, qa, U2, U3, U4⟩ := U
  refine o_aloadN (q := 1) A0 d8_0 rfl rfl rfl ?_
  refine o_getF (q := 4) A0 d8_1 (hw _ (List.mem_of_getElem? (i := 13) rfl)) U2 rfl (fun T1 A1 => ?_)
  refine o_arraylength (q := 5) (z := 1) A1 d8_4 U3 rfl rfl ?_
  refine o_if (q := 13) (q' := 8) A1 d8_5 (by decide) (by decide) rfl (fun hc => absurd (show (1 : Int32) = (0 : Int32) from hc) (by decide)) (fun _ => ?_)
  refine o_aloadN (q := 9) A1 d8_8 rfl rfl rfl ?_
  refine o_aloadN (q := 10) A1 d8_9 rfl rfl rfl ?_
  refine o_acmpneY (q := 18) A1 d8_10 (Ne.symm ncd) (by decide) (by decide) ?_
  refine o_aloadN (q := 19) A1 d8_18 rfl rfl rfl ?_
  refine o_getF (q := 22) A1 d8_19 (hw _ (List.mem_of_getElem? (i := 13) rfl)) S2 rfl (fun T2 A2 => ?_)
  refine o_arraylength (q := 23) (z := 1) A2 d8_22 S3 rfl rfl ?_
  refine o_if (q := 31) (q' := 26) A2 d8_23 (by decide) (by decide) rfl (fun _ => ?_) (fun hc => absurd (show (1 : Int32) ≠ (0 : Int32) from (by decide)) hc)
  refine o_aloadN (q := 32) A2 d8_31 rfl rfl rfl ?_
  refine o_getF (q := 35) A2 d8_32 (hw _ (List.mem_of_getElem? (i := 13) rfl)) S2 rfl (fun T3 A3 => ?_)
  refine o_arraylength (q := 36) (z := 1) A3 d8_35 S3 rfl rfl ?_
  refine o_aloadN (q := 37) A3 d8_36 rfl rfl rfl ?_
  refine o_getF (q := 40) A3 d8_37 (hw _ (List.mem_of_getElem? (i := 13) rfl)) U2 rfl (fun T4 A4 => ?_)
  refine o_arraylength (q := 41) (z := 1) A4 d8_40 U3 rfl rfl ?_
  refine o_iadd (q := 42) A4 d8_41 rfl ?_
  refine o_newarr (q := 44) (k' := 1) (n' := 2) (m := 2) (cap := 2) A4 d8_42 rfl (hw _ (List.mem_of_getElem? (i := 6) rfl)) (by decide) (by decide) (by decide) rfl rfl (by decide) (by decide) rfl rfl (fun T5 h5 r gr A5 X5 Vr Er => ?_)
  have g0r : n0 ≤ r := by rw [gr]; exact Z0
  have V0 : oArr Z h5 r .int 2 (fun i => .int ((fun _ => 0 : Nat → Int32) i)) := Vr
  have Xr : Ext h0 h5 := X5
  refine o_astoreN (q := 45) (Ls' := #[.val (.ref c), .val (.ref d), .unset, .val (.ref r), .unset, .unset, .unset, .unset]) A5 d8_44 rfl rfl rfl ?_
  refine o_iconst (q := 46) (z := 0) A5 d8_45 rfl rfl ?_
  refine o_istore (q := 48) (Ls' := #[.val (.ref c), .val (.ref d), .unset, .val (.ref r), .val (.int (0 : Int32)), .unset, .unset, .unset]) A5 d8_46 rfl rfl ?_
  refine o_iconst (q := 49) (z := 0) A5 d8_48 rfl rfl ?_
  refine o_istore (q := 51) (Ls' := #[.val (.ref c), .val (.ref d), .unset, .val (.ref r), .val (.int (0 : Int32)), .val (.int (0 : Int32)), .unset, .unset]) A5 d8_49 rfl rfl ?_
  refine o_iconst (q := 52) (z := 0) A5 d8_51 rfl rfl ?_
  refine o_istore (q := 54) (Ls' := #[.val (.ref c), .val (.ref d), .unset, .val (.ref r), .val (.int (0 : Int32)), .val (.int (0 : Int32)), .val (.int (0 : Int32)), .unset]) A5 d8_52 rfl rfl ?_
  refine o_iload (q := 56) A5 d8_54 rfl rfl ?_
  refine o_aloadN (q := 57) A5 d8_56 rfl rfl rfl ?_
  refine o_getF (q := 60) A5 d8_57 (hw _ (List.mem_of_getElem? (i := 13) rfl)) (S2.ext Xr) rfl (fun T6 A6 => ?_)
  refine o_arraylength (q := 61) (z := 1) A6 d8_60 (S3.ext Xr) rfl rfl ?_
  refine o_icmp (q := 74) (q' := 64) A6 d8_61 (by decide) (by decide) rfl (fun _ => ?_) (fun hc => absurd (show (0 : Int32) < (1 : Int32) from (by decide)) hc)
  refine o_iload (q := 76) A6 d8_74 rfl rfl ?_
  refine o_aloadN (q := 77) A6 d8_76 rfl rfl rfl ?_
  refine o_getF (q := 80) A6 d8_77 (hw _ (List.mem_of_getElem? (i := 13) rfl)) (U2.ext Xr) rfl (fun T7 A7 => ?_)
  refine o_arraylength (q := 81) (z := 1) A7 d8_80 (U3.ext Xr) rfl rfl ?_
  refine o_icmp (q := 111) (q' := 84) A7 d8_81 (by decide) (by decide) rfl (fun hc => absurd (show (0 : Int32) = (1 : Int32) from hc) (by decide)) (fun _ => ?_)
  refine o_iload (q := 86) A7 d8_84 rfl rfl ?_
  refine o_aloadN (q := 87) A7 d8_86 rfl rfl rfl ?_
  refine o_getF (q := 90) A7 d8_87 (hw _ (List.mem_of_getElem? (i := 13) rfl)) (S2.ext Xr) rfl (fun T8 A8 => ?_)
  refine o_arraylength (q := 91) (z := 1) A8 d8_90 (S3.ext Xr) rfl rfl ?_
  refine o_icmp (q := 126) (q' := 94) A8 d8_91 (by decide) (by decide) rfl (fun hc => absurd (show (1 : Int32) ≤ (0 : Int32) from hc) (by decide)) (fun _ => ?_)
  refine o_aloadN (q := 95) A8 d8_94 rfl rfl rfl ?_
  refine o_getF (q := 98) A8 d8_95 (hw _ (List.mem_of_getElem? (i := 13) rfl)) (S2.ext Xr) rfl (fun T9 A9 => ?_)
  refine o_iload (q := 100) A9 d8_98 rfl rfl ?_
  refine o_iaload (q := 101) (m := 1) (i := 0) (v := .int p) A9 d8_100 (S3.ext Xr) (by decide) (by decide) rfl rfl ?_
  refine o_aloadN (q := 102) A9 d8_101 rfl rfl rfl ?_
  refine o_getF (q := 105) A9 d8_102 (hw _ (List.mem_of_getElem? (i := 13) rfl)) (U2.ext Xr) rfl (fun T10 A10 => ?_)
  refine o_iload (q := 107) A10 d8_105 rfl rfl ?_
  refine o_iaload (q := 108) (m := 1) (i := 0) (v := .int q) A10 d8_107 (U3.ext Xr) (by decide) (by decide) rfl rfl ?_
  have tri : p < q ∨ p = q ∨ q < p := by
    rw [Int32.lt_iff_toInt_lt, Int32.lt_iff_toInt_lt, ← Int32.toInt_inj]; omega
  rcases tri with hlt | heq | hgt
  · have hno := hlt
    refine o_icmp (q := 126) (q' := 111) A10 d8_108 (by decide) (by decide) rfl (fun hc => absurd (show q ≤ p from hc) (Int32.not_le.mpr hlt)) (fun _ => ?_)
    refine o_aloadN (q := 112) A10 d8_111 rfl rfl rfl ?_
    refine o_getF (q := 115) A10 d8_112 (hw _ (List.mem_of_getElem? (i := 13) rfl)) (S2.ext Xr) rfl (fun T11 A11 => ?_)
    refine o_iload (q := 117) A11 d8_115 rfl rfl ?_
    refine o_iinc (q := 120) (z := 1) (Ls' := #[.val (.ref c), .val (.ref d), .unset, .val (.ref r), .val (.int (0 : Int32)), .val (.int (1 : Int32)), .val (.int (0 : Int32)), .unset]) A11 d8_117 rfl rfl rfl rfl ?_
    refine o_iaload (q := 121) (m := 1) (i := 0) (v := .int p) A11 d8_120 (S3.ext Xr) (by decide) (by decide) rfl rfl ?_
    refine o_istore (q := 123) (Ls' := #[.val (.ref c), .val (.ref d), .unset, .val (.ref r), .val (.int (0 : Int32)), .val (.int (1 : Int32)), .val (.int (0 : Int32)), .val (.int p)]) A11 d8_121 rfl rfl ?_
    refine o_goto (q := 163) A11 d8_123 (by decide) (by decide) ?_
    refine o_aloadN (q := 164) A11 d8_163 rfl rfl rfl ?_
    refine o_iload (q := 166) A11 d8_164 rfl rfl ?_
    refine o_iinc (q := 169) (z := 1) (Ls' := #[.val (.ref c), .val (.ref d), .unset, .val (.ref r), .val (.int (1 : Int32)), .val (.int (1 : Int32)), .val (.int (0 : Int32)), .val (.int p)]) A11 d8_166 rfl rfl rfl rfl ?_
    refine o_iload (q := 171) A11 d8_169 rfl rfl ?_
    refine o_iastore (q := 172) (m := 2) (i := 0) A11 d8_171 V0 (by decide) (by decide) g0r rfl (fun T12 h12 A12 W12 => ?_)
    have V1 : oArr Z h12 r .int 2 (fun i => .int ((fun i => if i = 0 then p else 0 : Nat → Int32) i)) := (V0.same W12).congr fun i hi => by rcases (show i = 0 ∨ i = 1 by omega) with rfl | rfl <;> rfl
    replace Er := Er.wr W12
    have Xn12 : Ext h0 h12 := o_exwr Xr W12 (by rw [gr]; exact Nat.le_refl _)
    refine o_goto (q := 54) A12 d8_172 (by decide) (by decide) ?_
    refine o_iload (q := 56) A12 d8_54 rfl rfl ?_
    refine o_aloadN (q := 57) A12 d8_56 rfl rfl rfl ?_
    refine o_getF (q := 60) A12 d8_57 (hw _ (List.mem_of_getElem? (i := 13) rfl)) (S2.ext Xn12) rfl (fun T13 A13 => ?_)
    refine o_arraylength (q := 61) (z := 1) A13 d8_60 (S3.ext Xn12) rfl rfl ?_
    refine o_icmp (q := 74) (q' := 64) A13 d8_61 (by decide) (by decide) rfl (fun hc => absurd (show (1 : Int32) < (1 : Int32) from hc) (by decide)) (fun _ => ?_)
    refine o_iload (q := 66) A13 d8_64 rfl rfl ?_
    refine o_aloadN (q := 67) A13 d8_66 rfl rfl rfl ?_
    refine o_getF (q := 70) A13 d8_67 (hw _ (List.mem_of_getElem? (i := 13) rfl)) (U2.ext Xn12) rfl (fun T14 A14 => ?_)
    refine o_arraylength (q := 71) (z := 1) A14 d8_70 (U3.ext Xn12) rfl rfl ?_
    refine o_icmp (q := 175) (q' := 74) A14 d8_71 (by decide) (by decide) rfl (fun hc => absurd (show (1 : Int32) ≤ (0 : Int32) from hc) (by decide)) (fun _ => ?_)
    refine o_iload (q := 76) A14 d8_74 rfl rfl ?_
    refine o_aloadN (q := 77) A14 d8_76 rfl rfl rfl ?_
    refine o_getF (q := 80) A14 d8_77 (hw _ (List.mem_of_getElem? (i := 13) rfl)) (U2.ext Xn12) rfl (fun T15 A15 => ?_)
    refine o_arraylength (q := 81) (z := 1) A15 d8_80 (U3.ext Xn12) rfl rfl ?_
    refine o_icmp (q := 111) (q' := 84) A15 d8_81 (by decide) (by decide) rfl (fun hc => absurd (show (0 : Int32) = (1 : Int32) from hc) (by decide)) (fun _ => ?_)
    refine o_iload (q := 86) A15 d8_84 rfl rfl ?_
    refine o_aloadN (q := 87) A15 d8_86 rfl rfl rfl ?_
    refine o_getF (q := 90) A15 d8_87 (hw _ (List.mem_of_getElem? (i := 13) rfl)) (S2.ext Xn12) rfl (fun T16 A16 => ?_)
    refine o_arraylength (q := 91) (z := 1) A16 d8_90 (S3.ext Xn12) rfl rfl ?_
    refine o_icmp (q := 126) (q' := 94) A16 d8_91 (by decide) (by decide) rfl (fun _ => ?_) (fun hc => absurd (show (1 : Int32) ≤ (1 : Int32) from (by decide)) hc)
    refine o_aloadN (q := 127) A16 d8_126 rfl rfl rfl ?_
    refine o_getF (q := 130) A16 d8_127 (hw _ (List.mem_of_getElem? (i := 13) rfl)) (U2.ext Xn12) rfl (fun T17 A17 => ?_)
    refine o_iload (q := 132) A17 d8_130 rfl rfl ?_
    refine o_iinc (q := 135) (z := 1) (Ls' := #[.val (.ref c), .val (.ref d), .unset, .val (.ref r), .val (.int (1 : Int32)), .val (.int (1 : Int32)), .val (.int (1 : Int32)), .val (.int p)]) A17 d8_132 rfl rfl rfl rfl ?_
    refine o_iaload (q := 136) (m := 1) (i := 0) (v := .int q) A17 d8_135 (U3.ext Xn12) (by decide) (by decide) rfl rfl ?_
    refine o_istore (q := 138) (Ls' := #[.val (.ref c), .val (.ref d), .unset, .val (.ref r), .val (.int (1 : Int32)), .val (.int (1 : Int32)), .val (.int (1 : Int32)), .val (.int q)]) A17 d8_136 rfl rfl ?_
    refine o_iload (q := 140) A17 d8_138 rfl rfl ?_
    refine o_aloadN (q := 141) A17 d8_140 rfl rfl rfl ?_
    refine o_getF (q := 144) A17 d8_141 (hw _ (List.mem_of_getElem? (i := 13) rfl)) (S2.ext Xn12) rfl (fun T18 A18 => ?_)
    refine o_arraylength (q := 145) (z := 1) A18 d8_144 (S3.ext Xn12) rfl rfl ?_
    refine o_icmp (q := 163) (q' := 148) A18 d8_145 (by decide) (by decide) rfl (fun _ => ?_) (fun hc => absurd (show (1 : Int32) ≤ (1 : Int32) from (by decide)) hc)
    refine o_aloadN (q := 164) A18 d8_163 rfl rfl rfl ?_
    refine o_iload (q := 166) A18 d8_164 rfl rfl ?_
    refine o_iinc (q := 169) (z := 2) (Ls' := #[.val (.ref c), .val (.ref d), .unset, .val (.ref r), .val (.int (2 : Int32)), .val (.int (1 : Int32)), .val (.int (1 : Int32)), .val (.int q)]) A18 d8_166 rfl rfl rfl rfl ?_
    refine o_iload (q := 171) A18 d8_169 rfl rfl ?_
    refine o_iastore (q := 172) (m := 2) (i := 1) A18 d8_171 V1 (by decide) (by decide) g0r rfl (fun T19 h19 A19 W19 => ?_)
    have V2 : oArr Z h19 r .int 2 (fun i => .int ((fun i => if i = 0 then p else q : Nat → Int32) i)) := (V1.same W19).congr fun i hi => by rcases (show i = 0 ∨ i = 1 by omega) with rfl | rfl <;> rfl
    replace Er := Er.wr W19
    have Xn19 : Ext h0 h19 := o_exwr Xn12 W19 (by rw [gr]; exact Nat.le_refl _)
    refine o_goto (q := 54) A19 d8_172 (by decide) (by decide) ?_
    refine o_iload (q := 56) A19 d8_54 rfl rfl ?_
    refine o_aloadN (q := 57) A19 d8_56 rfl rfl rfl ?_
    refine o_getF (q := 60) A19 d8_57 (hw _ (List.mem_of_getElem? (i := 13) rfl)) (S2.ext Xn19) rfl (fun T20 A20 => ?_)
    refine o_arraylength (q := 61) (z := 1) A20 d8_60 (S3.ext Xn19) rfl rfl ?_
    refine o_icmp (q := 74) (q' := 64) A20 d8_61 (by decide) (by decide) rfl (fun hc => absurd (show (1 : Int32) < (1 : Int32) from hc) (by decide)) (fun _ => ?_)
    refine o_iload (q := 66) A20 d8_64 rfl rfl ?_
    refine o_aloadN (q := 67) A20 d8_66 rfl rfl rfl ?_
    refine o_getF (q := 70) A20 d8_67 (hw _ (List.mem_of_getElem? (i := 13) rfl)) (U2.ext Xn19) rfl (fun T21 A21 => ?_)
    refine o_arraylength (q := 71) (z := 1) A21 d8_70 (U3.ext Xn19) rfl rfl ?_
    refine o_icmp (q := 175) (q' := 74) A21 d8_71 (by decide) (by decide) rfl (fun _ => ?_) (fun hc => absurd (show (1 : Int32) ≤ (1 : Int32) from (by decide)) hc)
    refine o_newO (q := 178) (k' := 2) (n' := 3) A21 d8_175 (hw _ (List.mem_of_getElem? (i := 4) rfl)) (hw _ (List.mem_of_getElem? (i := 5) rfl)) (hw _ (List.mem_of_getElem? (i := 2) rfl)) rfl rfl (by decide) (by decide) rfl (fun T22 h22 u gu A22 X22 Eu Du => ?_)
    have Xu : Ext h0 h22 := o_extr Xn19 X22
    have g0u : n0 ≤ u := by rw [gu]; exact Nat.le_trans Z0 Xn19.1
    have Fu : Fld Z h22 u "com/example/irwell/irwell/tableau/DependencySet" "points" "[I" .null := Du (Or.inr (hw _ (List.mem_of_getElem? (i := 14) rfl))) (ty := .array .int) (by decide)
    refine o_dup (q := 179) A22 d8_178 rfl rfl ?_
    refine o_aloadN (q := 180) A22 d8_179 rfl rfl rfl ?_
    refine o_iload (q := 182) A22 d8_180 rfl rfl ?_
    refine o_copyOfI (q := 185) (W := 2) (k' := 3) (n' := 5) (j := 2) A22 d8_182 (V2.ext X22) (Er.ext X22) rfl (by decide) (hw _ (List.mem_of_getElem? (i := 30) rfl)) (hw _ (List.mem_of_getElem? (i := 31) rfl)) (hw _ (List.mem_of_getElem? (i := 32) rfl)) (hw _ (List.mem_of_getElem? (i := 33) rfl)) (own_site A22.2.1 hw) rfl rfl (by decide) (by decide) rfl rfl (by decide) (by decide) rfl (fun T23 h23 t gt A23 X23 Vt Et => ?_)
    have V9 : oArr Z h23 t .int 2 (fun i => .int ((fun i => if i = 0 then p else q : Nat → Int32) i)) := Vt.congr fun i hi => by rw [if_pos (by omega)]
    have nut : u ≠ t := by rw [gt]; exact Nat.ne_of_lt Eu.lt
    have X9 : Ext h0 h23 := o_extr Xu X23
    refine o_callC (q := 188) (W := 1) (k' := 3) (n' := 5) (st := [.ref u]) (argsL := [.ref t]) (b' := b3) (a := u) A23 (rm3 l Z a0 hw u t h23 n0 (Eu.ext X23) (Fu.ext X23) g0u) d8_185 rfl (hw _ (List.mem_of_getElem? (i := 7) rfl)) (hw _ (List.mem_of_getElem? (i := 8) rfl)) (hw _ (List.mem_of_getElem? (i := 2) rfl)) (hw _ (List.mem_of_getElem? (i := 9) rfl)) rfl (by decide) pd3 rfl rfl rfl rfl rfl (by decide) (by decide) rfl rfl (by decide) (by decide) rfl (fun v24 T24 h24 A24 hQ24 => ?_)
    obtain ⟨rfl, Kc, Ec, Fc⟩ := hQ24
    show oFin _ _ _ _ T24 188 #[.val (.ref c), .val (.ref d), .unset, .val (.ref r), .val (.int (2 : Int32)), .val (.int (1 : Int32)), .val (.int (1 : Int32)), .val (.int q)] [.ref u]
    refine o_astoreN (q := 189) (Ls' := #[.val (.ref c), .val (.ref d), .val (.ref u), .val (.ref r), .val (.int (2 : Int32)), .val (.int (1 : Int32)), .val (.int (1 : Int32)), .val (.int q)]) A24 d8_188 rfl rfl rfl ?_
    refine o_aloadN (q := 190) A24 d8_189 rfl rfl rfl ?_
    exact o_retA A24 rfl rfl rfl d8_190 (by decide) (by decide) ⟨u, rfl, o_ext ((show Keep h0 h23 [] from ⟨X9.1, fun x c q _ => X9.2 x c q, fun x c q => ⟨c, X9.2 x c q, rfl, rfl, rfl⟩⟩).trans Kc (fun x hx => by cases List.mem_singleton.mp hx; exact Or.inr (by rw [gu]; exact Xn19.1))), Or.inr (Or.inl ⟨hlt, ⟨Ec, t, Fc, V9.keep Kc (ninS (Ne.symm nut) nin0), Et.keep Kc⟩⟩)⟩
  · have hno := heq
    refine o_icmp (q := 126) (q' := 111) A10 d8_108 (by decide) (by decide) rfl (fun _ => ?_) (fun hc => absurd (show q ≤ p from (by rw [heq]; exact Int32.le_refl _)) hc)
    refine o_aloadN (q := 127) A10 d8_126 rfl rfl rfl ?_
    refine o_getF (q := 130) A10 d8_127 (hw _ (List.mem_of_getElem? (i := 13) rfl)) (U2.ext Xr) rfl (fun T25 A25 => ?_)
    refine o_iload (q := 132) A25 d8_130 rfl rfl ?_
    refine o_iinc (q := 135) (z := 1) (Ls' := #[.val (.ref c), .val (.ref d), .unset, .val (.ref r), .val (.int (0 : Int32)), .val (.int (0 : Int32)), .val (.int (1 : Int32)), .unset]) A25 d8_132 rfl rfl rfl rfl ?_
    refine o_iaload (q := 136) (m := 1) (i := 0) (v := .int q) A25 d8_135 (U3.ext Xr) (by decide) (by decide) rfl rfl ?_
    refine o_istore (q := 138) (Ls' := #[.val (.ref c), .val (.ref d), .unset, .val (.ref r), .val (.int (0 : Int32)), .val (.int (0 : Int32)), .val (.int (1 : Int32)), .val (.int q)]) A25 d8_136 rfl rfl ?_
    refine o_iload (q := 140) A25 d8_138 rfl rfl ?_
    refine o_aloadN (q := 141) A25 d8_140 rfl rfl rfl ?_
    refine o_getF (q := 144) A25 d8_141 (hw _ (List.mem_of_getElem? (i := 13) rfl)) (S2.ext Xr) rfl (fun T26 A26 => ?_)
    refine o_arraylength (q := 145) (z := 1) A26 d8_144 (S3.ext Xr) rfl rfl ?_
    refine o_icmp (q := 163) (q' := 148) A26 d8_145 (by decide) (by decide) rfl (fun hc => absurd (show (1 : Int32) ≤ (0 : Int32) from hc) (by decide)) (fun _ => ?_)
    refine o_aloadN (q := 149) A26 d8_148 rfl rfl rfl ?_
    refine o_getF (q := 152) A26 d8_149 (hw _ (List.mem_of_getElem? (i := 13) rfl)) (S2.ext Xr) rfl (fun T27 A27 => ?_)
    refine o_iload (q := 154) A27 d8_152 rfl rfl ?_
    refine o_iaload (q := 155) (m := 1) (i := 0) (v := .int p) A27 d8_154 (S3.ext Xr) (by decide) (by decide) rfl rfl ?_
    refine o_iload (q := 157) A27 d8_155 rfl rfl ?_
    refine o_icmp (q := 163) (q' := 160) A27 d8_157 (by decide) (by decide) rfl (fun hc => absurd (show p ≠ q from hc) (fun h => h heq)) (fun _ => ?_)
    refine o_iinc (q := 163) (z := 1) (Ls' := #[.val (.ref c), .val (.ref d), .unset, .val (.ref r), .val (.int (0 : Int32)), .val (.int (1 : Int32)), .val (.int (1 : Int32)), .val (.int q)]) A27 d8_160 rfl rfl rfl rfl ?_
    refine o_aloadN (q := 164) A27 d8_163 rfl rfl rfl ?_
    refine o_iload (q := 166) A27 d8_164 rfl rfl ?_
    refine o_iinc (q := 169) (z := 1) (Ls' := #[.val (.ref c), .val (.ref d), .unset, .val (.ref r), .val (.int (1 : Int32)), .val (.int (1 : Int32)), .val (.int (1 : Int32)), .val (.int q)]) A27 d8_166 rfl rfl rfl rfl ?_
    refine o_iload (q := 171) A27 d8_169 rfl rfl ?_
    refine o_iastore (q := 172) (m := 2) (i := 0) A27 d8_171 V0 (by decide) (by decide) g0r rfl (fun T28 h28 A28 W28 => ?_)
    have V1 : oArr Z h28 r .int 2 (fun i => .int ((fun i => if i = 0 then q else 0 : Nat → Int32) i)) := (V0.same W28).congr fun i hi => by rcases (show i = 0 ∨ i = 1 by omega) with rfl | rfl <;> rfl
    replace Er := Er.wr W28
    have Xn28 : Ext h0 h28 := o_exwr Xr W28 (by rw [gr]; exact Nat.le_refl _)
    refine o_goto (q := 54) A28 d8_172 (by decide) (by decide) ?_
    refine o_iload (q := 56) A28 d8_54 rfl rfl ?_
    refine o_aloadN (q := 57) A28 d8_56 rfl rfl rfl ?_
    refine o_getF (q := 60) A28 d8_57 (hw _ (List.mem_of_getElem? (i := 13) rfl)) (S2.ext Xn28) rfl (fun T29 A29 => ?_)
    refine o_arraylength (q := 61) (z := 1) A29 d8_60 (S3.ext Xn28) rfl rfl ?_
    refine o_icmp (q := 74) (q' := 64) A29 d8_61 (by decide) (by decide) rfl (fun hc => absurd (show (1 : Int32) < (1 : Int32) from hc) (by decide)) (fun _ => ?_)
    refine o_iload (q := 66) A29 d8_64 rfl rfl ?_
    refine o_aloadN (q := 67) A29 d8_66 rfl rfl rfl ?_
    refine o_getF (q := 70) A29 d8_67 (hw _ (List.mem_of_getElem? (i := 13) rfl)) (U2.ext Xn28) rfl (fun T30 A30 => ?_)
    refine o_arraylength (q := 71) (z := 1) A30 d8_70 (U3.ext Xn28) rfl rfl ?_
    refine o_icmp (q := 175) (q' := 74) A30 d8_71 (by decide) (by decide) rfl (fun _ => ?_) (fun hc => absurd (show (1 : Int32) ≤ (1 : Int32) from (by decide)) hc)
    refine o_newO (q := 178) (k' := 2) (n' := 3) A30 d8_175 (hw _ (List.mem_of_getElem? (i := 4) rfl)) (hw _ (List.mem_of_getElem? (i := 5) rfl)) (hw _ (List.mem_of_getElem? (i := 2) rfl)) rfl rfl (by decide) (by decide) rfl (fun T31 h31 u gu A31 X31 Eu Du => ?_)
    have Xu : Ext h0 h31 := o_extr Xn28 X31
    have g0u : n0 ≤ u := by rw [gu]; exact Nat.le_trans Z0 Xn28.1
    have Fu : Fld Z h31 u "com/example/irwell/irwell/tableau/DependencySet" "points" "[I" .null := Du (Or.inr (hw _ (List.mem_of_getElem? (i := 14) rfl))) (ty := .array .int) (by decide)
    refine o_dup (q := 179) A31 d8_178 rfl rfl ?_
    refine o_aloadN (q := 180) A31 d8_179 rfl rfl rfl ?_
    refine o_iload (q := 182) A31 d8_180 rfl rfl ?_
    refine o_copyOfI (q := 185) (W := 2) (k' := 3) (n' := 4) (j := 1) A31 d8_182 (V1.ext X31) (Er.ext X31) rfl (by decide) (hw _ (List.mem_of_getElem? (i := 30) rfl)) (hw _ (List.mem_of_getElem? (i := 31) rfl)) (hw _ (List.mem_of_getElem? (i := 32) rfl)) (hw _ (List.mem_of_getElem? (i := 33) rfl)) (own_site A31.2.1 hw) rfl rfl (by decide) (by decide) rfl rfl (by decide) (by decide) rfl (fun T32 h32 t gt A32 X32 Vt Et => ?_)
    have V9 : oArr Z h32 t .int 1 (fun i => .int ((fun _ => p : Nat → Int32) i)) := Vt.congr fun i hi => by rw [if_pos (by omega)]; show Value.int (if i = 0 then q else 0) = Value.int p; rw [if_pos (by omega), heq]
    have nut : u ≠ t := by rw [gt]; exact Nat.ne_of_lt Eu.lt
    have X9 : Ext h0 h32 := o_extr Xu X32
    refine o_callC (q := 188) (W := 1) (k' := 3) (n' := 4) (st := [.ref u]) (argsL := [.ref t]) (b' := b3) (a := u) A32 (rm3 l Z a0 hw u t h32 n0 (Eu.ext X32) (Fu.ext X32) g0u) d8_185 rfl (hw _ (List.mem_of_getElem? (i := 7) rfl)) (hw _ (List.mem_of_getElem? (i := 8) rfl)) (hw _ (List.mem_of_getElem? (i := 2) rfl)) (hw _ (List.mem_of_getElem? (i := 9) rfl)) rfl (by decide) pd3 rfl rfl rfl rfl rfl (by decide) (by decide) rfl rfl (by decide) (by decide) rfl (fun v33 T33 h33 A33 hQ33 => ?_)
    obtain ⟨rfl, Kc, Ec, Fc⟩ := hQ33
    show oFin _ _ _ _ T33 188 #[.val (.ref c), .val (.ref d), .unset, .val (.ref r), .val (.int (1 : Int32)), .val (.int (1 : Int32)), .val (.int (1 : Int32)), .val (.int q)] [.ref u]
    refine o_astoreN (q := 189) (Ls' := #[.val (.ref c), .val (.ref d), .val (.ref u), .val (.ref r), .val (.int (1 : Int32)), .val (.int (1 : Int32)), .val (.int (1 : Int32)), .val (.int q)]) A33 d8_188 rfl rfl rfl ?_
    refine o_aloadN (q := 190) A33 d8_189 rfl rfl rfl ?_
    exact o_retA A33 rfl rfl rfl d8_190 (by decide) (by decide) ⟨u, rfl, o_ext ((show Keep h0 h32 [] from ⟨X9.1, fun x c q _ => X9.2 x c q, fun x c q => ⟨c, X9.2 x c q, rfl, rfl, rfl⟩⟩).trans Kc (fun x hx => by cases List.mem_singleton.mp hx; exact Or.inr (by rw [gu]; exact Xn28.1))), Or.inl ⟨heq, ⟨Ec, t, Fc, V9.keep Kc (ninS (Ne.symm nut) nin0), Et.keep Kc⟩⟩⟩
  · have hno := hgt
    refine o_icmp (q := 126) (q' := 111) A10 d8_108 (by decide) (by decide) rfl (fun _ => ?_) (fun hc => absurd (show q ≤ p from (Int32.le_of_lt hgt)) hc)
    refine o_aloadN (q := 127) A10 d8_126 rfl rfl rfl ?_
    refine o_getF (q := 130) A10 d8_127 (hw _ (List.mem_of_getElem? (i := 13) rfl)) (U2.ext Xr) rfl (fun T34 A34 => ?_)
    refine o_iload (q := 132) A34 d8_130 rfl rfl ?_
    refine o_iinc (q := 135) (z := 1) (Ls' := #[.val (.ref c), .val (.ref d), .unset, .val (.ref r), .val (.int (0 : Int32)), .val (.int (0 : Int32)), .val (.int (1 : Int32)), .unset]) A34 d8_132 rfl rfl rfl rfl ?_
    refine o_iaload (q := 136) (m := 1) (i := 0) (v := .int q) A34 d8_135 (U3.ext Xr) (by decide) (by decide) rfl rfl ?_
    refine o_istore (q := 138) (Ls' := #[.val (.ref c), .val (.ref d), .unset, .val (.ref r), .val (.int (0 : Int32)), .val (.int (0 : Int32)), .val (.int (1 : Int32)), .val (.int q)]) A34 d8_136 rfl rfl ?_
    refine o_iload (q := 140) A34 d8_138 rfl rfl ?_
    refine o_aloadN (q := 141) A34 d8_140 rfl rfl rfl ?_
    refine o_getF (q := 144) A34 d8_141 (hw _ (List.mem_of_getElem? (i := 13) rfl)) (S2.ext Xr) rfl (fun T35 A35 => ?_)
    refine o_arraylength (q := 145) (z := 1) A35 d8_144 (S3.ext Xr) rfl rfl ?_
    refine o_icmp (q := 163) (q' := 148) A35 d8_145 (by decide) (by decide) rfl (fun hc => absurd (show (1 : Int32) ≤ (0 : Int32) from hc) (by decide)) (fun _ => ?_)
    refine o_aloadN (q := 149) A35 d8_148 rfl rfl rfl ?_
    refine o_getF (q := 152) A35 d8_149 (hw _ (List.mem_of_getElem? (i := 13) rfl)) (S2.ext Xr) rfl (fun T36 A36 => ?_)
    refine o_iload (q := 154) A36 d8_152 rfl rfl ?_
    refine o_iaload (q := 155) (m := 1) (i := 0) (v := .int p) A36 d8_154 (S3.ext Xr) (by decide) (by decide) rfl rfl ?_
    refine o_iload (q := 157) A36 d8_155 rfl rfl ?_
    refine o_icmp (q := 163) (q' := 160) A36 d8_157 (by decide) (by decide) rfl (fun _ => ?_) (fun hc => absurd (show p ≠ q from (fun h => Int32.lt_irrefl (h ▸ hgt))) hc)
    refine o_aloadN (q := 164) A36 d8_163 rfl rfl rfl ?_
    refine o_iload (q := 166) A36 d8_164 rfl rfl ?_
    refine o_iinc (q := 169) (z := 1) (Ls' := #[.val (.ref c), .val (.ref d), .unset, .val (.ref r), .val (.int (1 : Int32)), .val (.int (0 : Int32)), .val (.int (1 : Int32)), .val (.int q)]) A36 d8_166 rfl rfl rfl rfl ?_
    refine o_iload (q := 171) A36 d8_169 rfl rfl ?_
    refine o_iastore (q := 172) (m := 2) (i := 0) A36 d8_171 V0 (by decide) (by decide) g0r rfl (fun T37 h37 A37 W37 => ?_)
    have V1 : oArr Z h37 r .int 2 (fun i => .int ((fun i => if i = 0 then q else 0 : Nat → Int32) i)) := (V0.same W37).congr fun i hi => by rcases (show i = 0 ∨ i = 1 by omega) with rfl | rfl <;> rfl
    replace Er := Er.wr W37
    have Xn37 : Ext h0 h37 := o_exwr Xr W37 (by rw [gr]; exact Nat.le_refl _)
    refine o_goto (q := 54) A37 d8_172 (by decide) (by decide) ?_
    refine o_iload (q := 56) A37 d8_54 rfl rfl ?_
    refine o_aloadN (q := 57) A37 d8_56 rfl rfl rfl ?_
    refine o_getF (q := 60) A37 d8_57 (hw _ (List.mem_of_getElem? (i := 13) rfl)) (S2.ext Xn37) rfl (fun T38 A38 => ?_)
    refine o_arraylength (q := 61) (z := 1) A38 d8_60 (S3.ext Xn37) rfl rfl ?_
    refine o_icmp (q := 74) (q' := 64) A38 d8_61 (by decide) (by decide) rfl (fun _ => ?_) (fun hc => absurd (show (0 : Int32) < (1 : Int32) from (by decide)) hc)
    refine o_iload (q := 76) A38 d8_74 rfl rfl ?_
    refine o_aloadN (q := 77) A38 d8_76 rfl rfl rfl ?_
    refine o_getF (q := 80) A38 d8_77 (hw _ (List.mem_of_getElem? (i := 13) rfl)) (U2.ext Xn37) rfl (fun T39 A39 => ?_)
    refine o_arraylength (q := 81) (z := 1) A39 d8_80 (U3.ext Xn37) rfl rfl ?_
    refine o_icmp (q := 111) (q' := 84) A39 d8_81 (by decide) (by decide) rfl (fun _ => ?_) (fun hc => absurd (show (1 : Int32) = (1 : Int32) from (by decide)) hc)
    refine o_aloadN (q := 112) A39 d8_111 rfl rfl rfl ?_
    refine o_getF (q := 115) A39 d8_112 (hw _ (List.mem_of_getElem? (i := 13) rfl)) (S2.ext Xn37) rfl (fun T40 A40 => ?_)
    refine o_iload (q := 117) A40 d8_115 rfl rfl ?_
    refine o_iinc (q := 120) (z := 1) (Ls' := #[.val (.ref c), .val (.ref d), .unset, .val (.ref r), .val (.int (1 : Int32)), .val (.int (1 : Int32)), .val (.int (1 : Int32)), .val (.int q)]) A40 d8_117 rfl rfl rfl rfl ?_
    refine o_iaload (q := 121) (m := 1) (i := 0) (v := .int p) A40 d8_120 (S3.ext Xn37) (by decide) (by decide) rfl rfl ?_
    refine o_istore (q := 123) (Ls' := #[.val (.ref c), .val (.ref d), .unset, .val (.ref r), .val (.int (1 : Int32)), .val (.int (1 : Int32)), .val (.int (1 : Int32)), .val (.int p)]) A40 d8_121 rfl rfl ?_
    refine o_goto (q := 163) A40 d8_123 (by decide) (by decide) ?_
    refine o_aloadN (q := 164) A40 d8_163 rfl rfl rfl ?_
    refine o_iload (q := 166) A40 d8_164 rfl rfl ?_
    refine o_iinc (q := 169) (z := 2) (Ls' := #[.val (.ref c), .val (.ref d), .unset, .val (.ref r), .val (.int (2 : Int32)), .val (.int (1 : Int32)), .val (.int (1 : Int32)), .val (.int p)]) A40 d8_166 rfl rfl rfl rfl ?_
    refine o_iload (q := 171) A40 d8_169 rfl rfl ?_
    refine o_iastore (q := 172) (m := 2) (i := 1) A40 d8_171 V1 (by decide) (by decide) g0r rfl (fun T41 h41 A41 W41 => ?_)
    have V2 : oArr Z h41 r .int 2 (fun i => .int ((fun i => if i = 0 then q else p : Nat → Int32) i)) := (V1.same W41).congr fun i hi => by rcases (show i = 0 ∨ i = 1 by omega) with rfl | rfl <;> rfl
    replace Er := Er.wr W41
    have Xn41 : Ext h0 h41 := o_exwr Xn37 W41 (by rw [gr]; exact Nat.le_refl _)
    refine o_goto (q := 54) A41 d8_172 (by decide) (by decide) ?_
    refine o_iload (q := 56) A41 d8_54 rfl rfl ?_
    refine o_aloadN (q := 57) A41 d8_56 rfl rfl rfl ?_
    refine o_getF (q := 60) A41 d8_57 (hw _ (List.mem_of_getElem? (i := 13) rfl)) (S2.ext Xn41) rfl (fun T42 A42 => ?_)
    refine o_arraylength (q := 61) (z := 1) A42 d8_60 (S3.ext Xn41) rfl rfl ?_
    refine o_icmp (q := 74) (q' := 64) A42 d8_61 (by decide) (by decide) rfl (fun hc => absurd (show (1 : Int32) < (1 : Int32) from hc) (by decide)) (fun _ => ?_)
    refine o_iload (q := 66) A42 d8_64 rfl rfl ?_
    refine o_aloadN (q := 67) A42 d8_66 rfl rfl rfl ?_
    refine o_getF (q := 70) A42 d8_67 (hw _ (List.mem_of_getElem? (i := 13) rfl)) (U2.ext Xn41) rfl (fun T43 A43 => ?_)
    refine o_arraylength (q := 71) (z := 1) A43 d8_70 (U3.ext Xn41) rfl rfl ?_
    refine o_icmp (q := 175) (q' := 74) A43 d8_71 (by decide) (by decide) rfl (fun _ => ?_) (fun hc => absurd (show (1 : Int32) ≤ (1 : Int32) from (by decide)) hc)
    refine o_newO (q := 178) (k' := 2) (n' := 3) A43 d8_175 (hw _ (List.mem_of_getElem? (i := 4) rfl)) (hw _ (List.mem_of_getElem? (i := 5) rfl)) (hw _ (List.mem_of_getElem? (i := 2) rfl)) rfl rfl (by decide) (by decide) rfl (fun T44 h44 u gu A44 X44 Eu Du => ?_)
    have Xu : Ext h0 h44 := o_extr Xn41 X44
    have g0u : n0 ≤ u := by rw [gu]; exact Nat.le_trans Z0 Xn41.1
    have Fu : Fld Z h44 u "com/example/irwell/irwell/tableau/DependencySet" "points" "[I" .null := Du (Or.inr (hw _ (List.mem_of_getElem? (i := 14) rfl))) (ty := .array .int) (by decide)
    refine o_dup (q := 179) A44 d8_178 rfl rfl ?_
    refine o_aloadN (q := 180) A44 d8_179 rfl rfl rfl ?_
    refine o_iload (q := 182) A44 d8_180 rfl rfl ?_
    refine o_copyOfI (q := 185) (W := 2) (k' := 3) (n' := 5) (j := 2) A44 d8_182 (V2.ext X44) (Er.ext X44) rfl (by decide) (hw _ (List.mem_of_getElem? (i := 30) rfl)) (hw _ (List.mem_of_getElem? (i := 31) rfl)) (hw _ (List.mem_of_getElem? (i := 32) rfl)) (hw _ (List.mem_of_getElem? (i := 33) rfl)) (own_site A44.2.1 hw) rfl rfl (by decide) (by decide) rfl rfl (by decide) (by decide) rfl (fun T45 h45 t gt A45 X45 Vt Et => ?_)
    have V9 : oArr Z h45 t .int 2 (fun i => .int ((fun i => if i = 0 then q else p : Nat → Int32) i)) := Vt.congr fun i hi => by rw [if_pos (by omega)]
    have nut : u ≠ t := by rw [gt]; exact Nat.ne_of_lt Eu.lt
    have X9 : Ext h0 h45 := o_extr Xu X45
    refine o_callC (q := 188) (W := 1) (k' := 3) (n' := 5) (st := [.ref u]) (argsL := [.ref t]) (b' := b3) (a := u) A45 (rm3 l Z a0 hw u t h45 n0 (Eu.ext X45) (Fu.ext X45) g0u) d8_185 rfl (hw _ (List.mem_of_getElem? (i := 7) rfl)) (hw _ (List.mem_of_getElem? (i := 8) rfl)) (hw _ (List.mem_of_getElem? (i := 2) rfl)) (hw _ (List.mem_of_getElem? (i := 9) rfl)) rfl (by decide) pd3 rfl rfl rfl rfl rfl (by decide) (by decide) rfl rfl (by decide) (by decide) rfl (fun v46 T46 h46 A46 hQ46 => ?_)
    obtain ⟨rfl, Kc, Ec, Fc⟩ := hQ46
    show oFin _ _ _ _ T46 188 #[.val (.ref c), .val (.ref d), .unset, .val (.ref r), .val (.int (2 : Int32)), .val (.int (1 : Int32)), .val (.int (1 : Int32)), .val (.int p)] [.ref u]
    refine o_astoreN (q := 189) (Ls' := #[.val (.ref c), .val (.ref d), .val (.ref u), .val (.ref r), .val (.int (2 : Int32)), .val (.int (1 : Int32)), .val (.int (1 : Int32)), .val (.int p)]) A46 d8_188 rfl rfl rfl ?_
    refine o_aloadN (q := 190) A46 d8_189 rfl rfl rfl ?_
    exact o_retA A46 rfl rfl rfl d8_190 (by decide) (by decide) ⟨u, rfl, o_ext ((show Keep h0 h45 [] from ⟨X9.1, fun x c q _ => X9.2 x c q, fun x c q => ⟨c, X9.2 x c q, rfl, rfl, rfl⟩⟩).trans Kc (fun x hx => by cases List.mem_singleton.mp hx; exact Or.inr (by rw [gu]; exact Xn41.1))), Or.inr (Or.inr ⟨hgt, ⟨Ec, t, Fc, V9.keep Kc (ninS (Ne.symm nut) nin0), Et.keep Kc⟩⟩)⟩
set_option maxRecDepth 65536 in
set_option maxHeartbeats 40000000 in
theorem rm0 (l : Launch) (Z : State) (a0 : Array Value) (hw : ∀ d ∈ tables_1, d.before a0 Z = true) (ws : List Jvm.Cond) (p q : Int32) (h0 : Heap) (n0 : Nat) (Z0 : n0 ≤ h0.size) :
    oMet l b0 ws Z n0 #[.int p, .int q] h0 (fun v h' => v = some (.int 1)) := by
  refine o_enter pn0 (Ls := #[.val (.int p), .val (.int q), .unset, .unset, .unset]) (fun m => by first | (simp [entryFrame, mkF, argsToLocals, Value.category, oBd.maxL, b0, maxLocals]; done) | rfl) ?_
  intro w T0 A0
  refine o_iloadN (q := 1) A0 at_0 rfl rfl ?_
  refine o_callS (q := 4) (W := 0) (k' := 2) (n' := 2) (st := []) (argsL := [.int p]) (b' := b4) A0 (rm4 l Z a0 hw p h0 n0 Z0) at_1 (hw _ (List.mem_of_getElem? (i := 0) rfl)) (hw _ (List.mem_of_getElem? (i := 1) rfl)) (hw _ (List.mem_of_getElem? (i := 2) rfl)) (hw _ (List.mem_of_getElem? (i := 3) rfl)) (by decide) pd4 rfl rfl rfl rfl rfl (by decide) (by decide) rfl rfl (by decide) (by decide) rfl (fun v1 T1 h1 A1 hQ1 => ?_)
  obtain ⟨s, rfl, -, Xs, S⟩ := hQ1
  show oFin _ _ _ _ T1 4 #[.val (.int p), .val (.int q), .unset, .unset, .unset] [.ref s]
  have Z1 := Nat.le_trans Z0 Xs.1
  refine o_astoreN (q := 5) (Ls' := #[.val (.int p), .val (.int q), .val (.ref s), .unset, .unset]) A1 at_4 rfl rfl rfl ?_
  refine o_aloadN (q := 6) A1 at_5 rfl rfl rfl ?_
  refine o_callV (q := 9) (W := 0) (k' := 2) (n' := 2) (st := []) (argsL := []) (b' := b5) A1 (rm5 l Z a0 hw s 1 (fun _ => p) h1 n0 S (by decide)) at_6 S.1 (hw _ (List.mem_of_getElem? (i := 15) rfl)) (hw _ (List.mem_of_getElem? (i := 16) rfl)) (hw _ (List.mem_of_getElem? (i := 18) rfl)) (hw _ (List.mem_of_getElem? (i := 17) rfl)) (hw _ (List.mem_of_getElem? (i := 2) rfl)) (hw _ (List.mem_of_getElem? (i := 19) rfl)) (by decide) pd5 rfl rfl rfl rfl rfl (by decide) (by decide) rfl rfl (by decide) (by decide) rfl (fun v2 T2 h2 A2 hQ2 => ?_)
  obtain ⟨rfl, rfl⟩ := hQ2
  show oFin _ _ _ _ T2 9 #[.val (.int p), .val (.int q), .val (.ref s), .unset, .unset] [.int (0 : Int32)]
  refine o_if (q := 14) (q' := 12) A2 at_9 (by decide) (by decide) rfl (fun _ => ?_) (fun hc => absurd (show (0 : Int32) = (0 : Int32) from (by decide)) hc)
  refine o_aloadN (q := 15) A2 at_14 rfl rfl rfl ?_
  refine o_callV (q := 18) (W := 0) (k' := 2) (n' := 2) (st := []) (argsL := []) (b' := b6) A2 (rm6 l Z a0 hw s 1 (fun _ => p) h2 n0 S (by decide) (by decide)) at_15 S.1 (hw _ (List.mem_of_getElem? (i := 20) rfl)) (hw _ (List.mem_of_getElem? (i := 21) rfl)) (hw _ (List.mem_of_getElem? (i := 23) rfl)) (hw _ (List.mem_of_getElem? (i := 22) rfl)) (hw _ (List.mem_of_getElem? (i := 2) rfl)) (hw _ (List.mem_of_getElem? (i := 24) rfl)) (by decide) pd6 rfl rfl rfl rfl rfl (by decide) (by decide) rfl rfl (by decide) (by decide) rfl (fun v3 T3 h3 A3 hQ3 => ?_)
  obtain ⟨rfl, rfl⟩ := hQ3
  show oFin _ _ _ _ T3 18 #[.val (.int p), .val (.int q), .val (.ref s), .unset, .unset] [.int p]
  refine o_iloadN (q := 19) A3 at_18 rfl rfl ?_
  refine o_icmp (q := 24) (q' := 22) A3 at_19 (by decide) (by decide) rfl (fun _ => ?_) (fun hc => absurd (show p = p from rfl) hc)
  refine o_aloadN (q := 25) A3 at_24 rfl rfl rfl ?_
  refine o_callV (q := 28) (W := 0) (k' := 4) (n' := 4) (st := []) (argsL := []) (b' := b7) A3 (rm7 l Z a0 hw s 1 (fun _ => p) h3 n0 Z1 S (by decide) (by decide)) at_25 S.1 (hw _ (List.mem_of_getElem? (i := 25) rfl)) (hw _ (List.mem_of_getElem? (i := 26) rfl)) (hw _ (List.mem_of_getElem? (i := 28) rfl)) (hw _ (List.mem_of_getElem? (i := 27) rfl)) (hw _ (List.mem_of_getElem? (i := 2) rfl)) (hw _ (List.mem_of_getElem? (i := 29) rfl)) (by decide) pd7 rfl rfl rfl rfl rfl (by decide) (by decide) rfl rfl (by decide) (by decide) rfl (fun v4 T4 h4 A4 hQ4 => ?_)
  obtain ⟨s2, rfl, X2, S2⟩ := hQ4
  show oFin _ _ _ _ T4 28 #[.val (.int p), .val (.int q), .val (.ref s), .unset, .unset] [.ref s2]
  have Z2 := Nat.le_trans Z1 X2.1
  refine o_callV (q := 31) (W := 0) (k' := 4) (n' := 4) (st := []) (argsL := []) (b' := b5) A4 (rm5 l Z a0 hw s2 0 (fun _ => p) h4 n0 S2 (by decide)) at_28 S2.1 (hw _ (List.mem_of_getElem? (i := 15) rfl)) (hw _ (List.mem_of_getElem? (i := 16) rfl)) (hw _ (List.mem_of_getElem? (i := 18) rfl)) (hw _ (List.mem_of_getElem? (i := 17) rfl)) (hw _ (List.mem_of_getElem? (i := 2) rfl)) (hw _ (List.mem_of_getElem? (i := 19) rfl)) (by decide) pd5 rfl rfl rfl rfl rfl (by decide) (by decide) rfl rfl (by decide) (by decide) rfl (fun v5 T5 h5 A5 hQ5 => ?_)
  obtain ⟨rfl, rfl⟩ := hQ5
  show oFin _ _ _ _ T5 31 #[.val (.int p), .val (.int q), .val (.ref s), .unset, .unset] [.int (1 : Int32)]
  refine o_if (q := 36) (q' := 34) A5 at_31 (by decide) (by decide) rfl (fun _ => ?_) (fun hc => absurd (show (1 : Int32) ≠ (0 : Int32) from (by decide)) hc)
  refine o_aloadN (q := 37) A5 at_36 rfl rfl rfl ?_
  refine o_iloadN (q := 38) A5 at_37 rfl rfl ?_
  refine o_callS (q := 41) (W := 1) (k' := 6) (n' := 6) (st := [.ref s]) (argsL := [.int q]) (b' := b4) A5 (rm4 l Z a0 hw q h5 n0 Z2) at_38 (hw _ (List.mem_of_getElem? (i := 0) rfl)) (hw _ (List.mem_of_getElem? (i := 1) rfl)) (hw _ (List.mem_of_getElem? (i := 2) rfl)) (hw _ (List.mem_of_getElem? (i := 3) rfl)) (by decide) pd4 rfl rfl rfl rfl rfl (by decide) (by decide) rfl rfl (by decide) (by decide) rfl (fun v6 T6 h6 A6 hQ6 => ?_)
  obtain ⟨t, rfl, gt, X3, S3⟩ := hQ6
  show oFin _ _ _ _ T6 41 #[.val (.int p), .val (.int q), .val (.ref s), .unset, .unset] [.ref t, .ref s]
  have Z3 := Nat.le_trans Z2 X3.1
  have Ss := (S.ext X2).ext X3
  have nst : s ≠ t := Nat.ne_of_lt (Nat.lt_of_lt_of_le (S.ext X2).1.lt gt)
  refine o_callV (q := 44) (W := 0) (k' := 9) (n' := 11) (st := []) (argsL := [.ref t]) (b' := b8) A6 (rm8 l Z a0 hw s t p q h6 n0 Z3 Ss S3 nst) at_41 Ss.1 (hw _ (List.mem_of_getElem? (i := 42) rfl)) (hw _ (List.mem_of_getElem? (i := 43) rfl)) (hw _ (List.mem_of_getElem? (i := 45) rfl)) (hw _ (List.mem_of_getElem? (i := 44) rfl)) (hw _ (List.mem_of_getElem? (i := 2) rfl)) (hw _ (List.mem_of_getElem? (i := 46) rfl)) (by decide) pd8 rfl rfl rfl rfl rfl (by decide) (by decide) rfl rfl (by decide) (by decide) rfl (fun v7 T7 h7 A7 hQ7 => ?_)
  obtain ⟨u, rfl, X4, hU⟩ := hQ7
  show oFin _ _ _ _ T7 44 #[.val (.int p), .val (.int q), .val (.ref s), .unset, .unset] [.ref u]
  have Z4 := Nat.le_trans Z3 X4.1
  refine o_astoreN (q := 45) (Ls' := #[.val (.int p), .val (.int q), .val (.ref s), .val (.ref u), .unset]) A7 at_44 rfl rfl rfl ?_
  rcases hU with ⟨heq, SU⟩ | ⟨hlt, SU⟩ | ⟨hgt, SU⟩
  · have hcase := heq
    refine o_aloadN (q := 46) A7 at_45 rfl rfl rfl ?_
    refine o_callV (q := 49) (W := 0) (k' := 9) (n' := 11) (st := []) (argsL := []) (b' := b6) A7 (rm6 l Z a0 hw u 1 (fun _ => p) h7 n0 SU (by decide) (by decide)) at_46 SU.1 (hw _ (List.mem_of_getElem? (i := 20) rfl)) (hw _ (List.mem_of_getElem? (i := 21) rfl)) (hw _ (List.mem_of_getElem? (i := 23) rfl)) (hw _ (List.mem_of_getElem? (i := 22) rfl)) (hw _ (List.mem_of_getElem? (i := 2) rfl)) (hw _ (List.mem_of_getElem? (i := 24) rfl)) (by decide) pd6 rfl rfl rfl rfl rfl (by decide) (by decide) rfl rfl (by decide) (by decide) rfl (fun v8 T8 h8 A8 hQ8 => ?_)
    obtain ⟨rfl, rfl⟩ := hQ8
    show oFin _ _ _ _ T8 49 #[.val (.int p), .val (.int q), .val (.ref s), .val (.ref u), .unset] [.int p]
    refine o_iloadN (q := 50) A8 at_49 rfl rfl ?_
    refine o_iloadN (q := 51) A8 at_50 rfl rfl ?_
    refine o_callS (q := 54) (W := 1) (k' := 9) (n' := 11) (st := [.int p]) (argsL := [.int p, .int q]) (b' := b2) A8 (rm2 l Z a0 hw p q h8 n0) at_51 (hw _ (List.mem_of_getElem? (i := 56) rfl)) (hw _ (List.mem_of_getElem? (i := 57) rfl)) (hw _ (List.mem_of_getElem? (i := 36) rfl)) (hw _ (List.mem_of_getElem? (i := 58) rfl)) (by decide) pd2 rfl rfl rfl rfl rfl (by decide) (by decide) rfl rfl (by decide) (by decide) rfl (fun v9 T9 h9 A9 hQ9 => ?_)
    obtain ⟨rfl, rfl⟩ := hQ9
    show oFin _ _ _ _ T9 54 #[.val (.int p), .val (.int q), .val (.ref s), .val (.ref u), .unset] [.int (if p < q then q else p), .int p]
    rw [if_neg (show ¬ p < q from fun h => Int32.lt_irrefl (heq ▸ h))]
    show oFin _ _ _ _ T9 54 #[.val (.int p), .val (.int q), .val (.ref s), .val (.ref u), .unset] [.int p, .int p]
    refine o_icmp (q := 59) (q' := 57) A9 at_54 (by decide) (by decide) rfl (fun _ => ?_) (fun hc => absurd (show p = p from rfl) hc)
    refine o_aloadN (q := 60) A9 at_59 rfl rfl rfl ?_
    refine o_callV (q := 63) (W := 0) (k' := 11) (n' := 13) (st := []) (argsL := []) (b' := b7) A9 (rm7 l Z a0 hw u 1 (fun _ => p) h9 n0 Z4 SU (by decide) (by decide)) at_60 SU.1 (hw _ (List.mem_of_getElem? (i := 25) rfl)) (hw _ (List.mem_of_getElem? (i := 26) rfl)) (hw _ (List.mem_of_getElem? (i := 28) rfl)) (hw _ (List.mem_of_getElem? (i := 27) rfl)) (hw _ (List.mem_of_getElem? (i := 2) rfl)) (hw _ (List.mem_of_getElem? (i := 29) rfl)) (by decide) pd7 rfl rfl rfl rfl rfl (by decide) (by decide) rfl rfl (by decide) (by decide) rfl (fun v10 T10 h10 A10 hQ10 => ?_)
    obtain ⟨y, rfl, X5, S5⟩ := hQ10
    show oFin _ _ _ _ T10 63 #[.val (.int p), .val (.int q), .val (.ref s), .val (.ref u), .unset] [.ref y]
    refine o_astore (q := 65) (Ls' := #[.val (.int p), .val (.int q), .val (.ref s), .val (.ref u), .val (.ref y)]) A10 at_63 rfl rfl rfl ?_
    refine o_iloadN (q := 66) A10 at_65 rfl rfl ?_
    refine o_iloadN (q := 67) A10 at_66 rfl rfl ?_
    refine o_icmp (q := 76) (q' := 70) A10 at_67 (by decide) (by decide) rfl (fun hc => absurd (show p ≠ q from hc) (fun h => h heq)) (fun _ => ?_)
    refine o_aload (q := 72) A10 at_70 rfl rfl rfl ?_
    refine o_callV (q := 75) (W := 0) (k' := 11) (n' := 13) (st := []) (argsL := []) (b' := b5) A10 (rm5 l Z a0 hw y (1 - 1) (fun _ => p) h10 n0 S5 (by decide)) at_72 S5.1 (hw _ (List.mem_of_getElem? (i := 15) rfl)) (hw _ (List.mem_of_getElem? (i := 16) rfl)) (hw _ (List.mem_of_getElem? (i := 18) rfl)) (hw _ (List.mem_of_getElem? (i := 17) rfl)) (hw _ (List.mem_of_getElem? (i := 2) rfl)) (hw _ (List.mem_of_getElem? (i := 19) rfl)) (by decide) pd5 rfl rfl rfl rfl rfl (by decide) (by decide) rfl rfl (by decide) (by decide) rfl (fun v11 T11 h11 A11 hQ11 => ?_)
    obtain ⟨rfl, rfl⟩ := hQ11
    show oFin _ _ _ _ T11 75 #[.val (.int p), .val (.int q), .val (.ref s), .val (.ref u), .val (.ref y)] [.int (1 : Int32)]
    exact o_retN A11 rfl (by simp) at_75 (by decide) (by decide) rfl
  · have hcase := hlt
    refine o_aloadN (q := 46) A7 at_45 rfl rfl rfl ?_
    refine o_callV (q := 49) (W := 0) (k' := 9) (n' := 11) (st := []) (argsL := []) (b' := b6) A7 (rm6 l Z a0 hw u 2 (fun i => if i = 0 then p else q) h7 n0 SU (by decide) (by decide)) at_46 SU.1 (hw _ (List.mem_of_getElem? (i := 20) rfl)) (hw _ (List.mem_of_getElem? (i := 21) rfl)) (hw _ (List.mem_of_getElem? (i := 23) rfl)) (hw _ (List.mem_of_getElem? (i := 22) rfl)) (hw _ (List.mem_of_getElem? (i := 2) rfl)) (hw _ (List.mem_of_getElem? (i := 24) rfl)) (by decide) pd6 rfl rfl rfl rfl rfl (by decide) (by decide) rfl rfl (by decide) (by decide) rfl (fun v12 T12 h12 A12 hQ12 => ?_)
    obtain ⟨rfl, rfl⟩ := hQ12
    show oFin _ _ _ _ T12 49 #[.val (.int p), .val (.int q), .val (.ref s), .val (.ref u), .unset] [.int q]
    refine o_iloadN (q := 50) A12 at_49 rfl rfl ?_
    refine o_iloadN (q := 51) A12 at_50 rfl rfl ?_
    refine o_callS (q := 54) (W := 1) (k' := 9) (n' := 11) (st := [.int q]) (argsL := [.int p, .int q]) (b' := b2) A12 (rm2 l Z a0 hw p q h12 n0) at_51 (hw _ (List.mem_of_getElem? (i := 56) rfl)) (hw _ (List.mem_of_getElem? (i := 57) rfl)) (hw _ (List.mem_of_getElem? (i := 36) rfl)) (hw _ (List.mem_of_getElem? (i := 58) rfl)) (by decide) pd2 rfl rfl rfl rfl rfl (by decide) (by decide) rfl rfl (by decide) (by decide) rfl (fun v13 T13 h13 A13 hQ13 => ?_)
    obtain ⟨rfl, rfl⟩ := hQ13
    show oFin _ _ _ _ T13 54 #[.val (.int p), .val (.int q), .val (.ref s), .val (.ref u), .unset] [.int (if p < q then q else p), .int q]
    rw [if_pos hlt]
    show oFin _ _ _ _ T13 54 #[.val (.int p), .val (.int q), .val (.ref s), .val (.ref u), .unset] [.int q, .int q]
    refine o_icmp (q := 59) (q' := 57) A13 at_54 (by decide) (by decide) rfl (fun _ => ?_) (fun hc => absurd (show q = q from rfl) hc)
    refine o_aloadN (q := 60) A13 at_59 rfl rfl rfl ?_
    refine o_callV (q := 63) (W := 0) (k' := 11) (n' := 13) (st := []) (argsL := []) (b' := b7) A13 (rm7 l Z a0 hw u 2 (fun i => if i = 0 then p else q) h13 n0 Z4 SU (by decide) (by decide)) at_60 SU.1 (hw _ (List.mem_of_getElem? (i := 25) rfl)) (hw _ (List.mem_of_getElem? (i := 26) rfl)) (hw _ (List.mem_of_getElem? (i := 28) rfl)) (hw _ (List.mem_of_getElem? (i := 27) rfl)) (hw _ (List.mem_of_getElem? (i := 2) rfl)) (hw _ (List.mem_of_getElem? (i := 29) rfl)) (by decide) pd7 rfl rfl rfl rfl rfl (by decide) (by decide) rfl rfl (by decide) (by decide) rfl (fun v14 T14 h14 A14 hQ14 => ?_)
    obtain ⟨y, rfl, X5, S5⟩ := hQ14
    show oFin _ _ _ _ T14 63 #[.val (.int p), .val (.int q), .val (.ref s), .val (.ref u), .unset] [.ref y]
    refine o_astore (q := 65) (Ls' := #[.val (.int p), .val (.int q), .val (.ref s), .val (.ref u), .val (.ref y)]) A14 at_63 rfl rfl rfl ?_
    refine o_iloadN (q := 66) A14 at_65 rfl rfl ?_
    refine o_iloadN (q := 67) A14 at_66 rfl rfl ?_
    refine o_icmp (q := 76) (q' := 70) A14 at_67 (by decide) (by decide) rfl (fun _ => ?_) (fun hc => absurd (show p ≠ q from (fun h => Int32.lt_irrefl (h ▸ hlt))) hc)
    refine o_aload (q := 78) A14 at_76 rfl rfl rfl ?_
    refine o_callV (q := 81) (W := 0) (k' := 11) (n' := 13) (st := []) (argsL := []) (b' := b5) A14 (rm5 l Z a0 hw y (2 - 1) (fun i => if i = 0 then p else q) h14 n0 S5 (by decide)) at_78 S5.1 (hw _ (List.mem_of_getElem? (i := 15) rfl)) (hw _ (List.mem_of_getElem? (i := 16) rfl)) (hw _ (List.mem_of_getElem? (i := 18) rfl)) (hw _ (List.mem_of_getElem? (i := 17) rfl)) (hw _ (List.mem_of_getElem? (i := 2) rfl)) (hw _ (List.mem_of_getElem? (i := 19) rfl)) (by decide) pd5 rfl rfl rfl rfl rfl (by decide) (by decide) rfl rfl (by decide) (by decide) rfl (fun v15 T15 h15 A15 hQ15 => ?_)
    obtain ⟨rfl, rfl⟩ := hQ15
    show oFin _ _ _ _ T15 81 #[.val (.int p), .val (.int q), .val (.ref s), .val (.ref u), .val (.ref y)] [.int (0 : Int32)]
    refine o_if (q := 101) (q' := 84) A15 at_81 (by decide) (by decide) rfl (fun hc => absurd (show (0 : Int32) ≠ (0 : Int32) from hc) (by decide)) (fun _ => ?_)
    refine o_aload (q := 86) A15 at_84 rfl rfl rfl ?_
    refine o_callV (q := 89) (W := 0) (k' := 11) (n' := 13) (st := []) (argsL := []) (b' := b6) A15 (rm6 l Z a0 hw y (2 - 1) (fun i => if i = 0 then p else q) h15 n0 S5 (by decide) (by decide)) at_86 S5.1 (hw _ (List.mem_of_getElem? (i := 20) rfl)) (hw _ (List.mem_of_getElem? (i := 21) rfl)) (hw _ (List.mem_of_getElem? (i := 23) rfl)) (hw _ (List.mem_of_getElem? (i := 22) rfl)) (hw _ (List.mem_of_getElem? (i := 2) rfl)) (hw _ (List.mem_of_getElem? (i := 24) rfl)) (by decide) pd6 rfl rfl rfl rfl rfl (by decide) (by decide) rfl rfl (by decide) (by decide) rfl (fun v16 T16 h16 A16 hQ16 => ?_)
    obtain ⟨rfl, rfl⟩ := hQ16
    show oFin _ _ _ _ T16 89 #[.val (.int p), .val (.int q), .val (.ref s), .val (.ref u), .val (.ref y)] [.int p]
    refine o_iloadN (q := 90) A16 at_89 rfl rfl ?_
    refine o_iloadN (q := 91) A16 at_90 rfl rfl ?_
    refine o_callS (q := 94) (W := 1) (k' := 11) (n' := 13) (st := [.int p]) (argsL := [.int p, .int q]) (b' := b1) A16 (rm1 l Z a0 hw p q h16 n0) at_91 (hw _ (List.mem_of_getElem? (i := 59) rfl)) (hw _ (List.mem_of_getElem? (i := 35) rfl)) (hw _ (List.mem_of_getElem? (i := 36) rfl)) (hw _ (List.mem_of_getElem? (i := 37) rfl)) (by decide) pd1 rfl rfl rfl rfl rfl (by decide) (by decide) rfl rfl (by decide) (by decide) rfl (fun v17 T17 h17 A17 hQ17 => ?_)
    obtain ⟨rfl, rfl⟩ := hQ17
    show oFin _ _ _ _ T17 94 #[.val (.int p), .val (.int q), .val (.ref s), .val (.ref u), .val (.ref y)] [.int (if q < p then q else p), .int p]
    rw [if_neg (show ¬ q < p from Int32.lt_asymm hlt)]
    show oFin _ _ _ _ T17 94 #[.val (.int p), .val (.int q), .val (.ref s), .val (.ref u), .val (.ref y)] [.int p, .int p]
    refine o_icmp (q := 101) (q' := 97) A17 at_94 (by decide) (by decide) rfl (fun hc => absurd (show p ≠ p from hc) (fun h => h rfl)) (fun _ => ?_)
    refine o_iconst (q := 98) (z := 1) A17 at_97 rfl rfl ?_
    refine o_goto (q := 102) A17 at_98 (by decide) (by decide) ?_
    exact o_retN A17 rfl (by simp) at_102 (by decide) (by decide) rfl
  · have hcase := hgt
    refine o_aloadN (q := 46) A7 at_45 rfl rfl rfl ?_
    refine o_callV (q := 49) (W := 0) (k' := 9) (n' := 11) (st := []) (argsL := []) (b' := b6) A7 (rm6 l Z a0 hw u 2 (fun i => if i = 0 then q else p) h7 n0 SU (by decide) (by decide)) at_46 SU.1 (hw _ (List.mem_of_getElem? (i := 20) rfl)) (hw _ (List.mem_of_getElem? (i := 21) rfl)) (hw _ (List.mem_of_getElem? (i := 23) rfl)) (hw _ (List.mem_of_getElem? (i := 22) rfl)) (hw _ (List.mem_of_getElem? (i := 2) rfl)) (hw _ (List.mem_of_getElem? (i := 24) rfl)) (by decide) pd6 rfl rfl rfl rfl rfl (by decide) (by decide) rfl rfl (by decide) (by decide) rfl (fun v18 T18 h18 A18 hQ18 => ?_)
    obtain ⟨rfl, rfl⟩ := hQ18
    show oFin _ _ _ _ T18 49 #[.val (.int p), .val (.int q), .val (.ref s), .val (.ref u), .unset] [.int p]
    refine o_iloadN (q := 50) A18 at_49 rfl rfl ?_
    refine o_iloadN (q := 51) A18 at_50 rfl rfl ?_
    refine o_callS (q := 54) (W := 1) (k' := 9) (n' := 11) (st := [.int p]) (argsL := [.int p, .int q]) (b' := b2) A18 (rm2 l Z a0 hw p q h18 n0) at_51 (hw _ (List.mem_of_getElem? (i := 56) rfl)) (hw _ (List.mem_of_getElem? (i := 57) rfl)) (hw _ (List.mem_of_getElem? (i := 36) rfl)) (hw _ (List.mem_of_getElem? (i := 58) rfl)) (by decide) pd2 rfl rfl rfl rfl rfl (by decide) (by decide) rfl rfl (by decide) (by decide) rfl (fun v19 T19 h19 A19 hQ19 => ?_)
    obtain ⟨rfl, rfl⟩ := hQ19
    show oFin _ _ _ _ T19 54 #[.val (.int p), .val (.int q), .val (.ref s), .val (.ref u), .unset] [.int (if p < q then q else p), .int p]
    rw [if_neg (show ¬ p < q from Int32.lt_asymm hgt)]
    show oFin _ _ _ _ T19 54 #[.val (.int p), .val (.int q), .val (.ref s), .val (.ref u), .unset] [.int p, .int p]
    refine o_icmp (q := 59) (q' := 57) A19 at_54 (by decide) (by decide) rfl (fun _ => ?_) (fun hc => absurd (show p = p from rfl) hc)
    refine o_aloadN (q := 60) A19 at_59 rfl rfl rfl ?_
    refine o_callV (q := 63) (W := 0) (k' := 11) (n' := 13) (st := []) (argsL := []) (b' := b7) A19 (rm7 l Z a0 hw u 2 (fun i => if i = 0 then q else p) h19 n0 Z4 SU (by decide) (by decide)) at_60 SU.1 (hw _ (List.mem_of_getElem? (i := 25) rfl)) (hw _ (List.mem_of_getElem? (i := 26) rfl)) (hw _ (List.mem_of_getElem? (i := 28) rfl)) (hw _ (List.mem_of_getElem? (i := 27) rfl)) (hw _ (List.mem_of_getElem? (i := 2) rfl)) (hw _ (List.mem_of_getElem? (i := 29) rfl)) (by decide) pd7 rfl rfl rfl rfl rfl (by decide) (by decide) rfl rfl (by decide) (by decide) rfl (fun v20 T20 h20 A20 hQ20 => ?_)
    obtain ⟨y, rfl, X5, S5⟩ := hQ20
    show oFin _ _ _ _ T20 63 #[.val (.int p), .val (.int q), .val (.ref s), .val (.ref u), .unset] [.ref y]
    refine o_astore (q := 65) (Ls' := #[.val (.int p), .val (.int q), .val (.ref s), .val (.ref u), .val (.ref y)]) A20 at_63 rfl rfl rfl ?_
    refine o_iloadN (q := 66) A20 at_65 rfl rfl ?_
    refine o_iloadN (q := 67) A20 at_66 rfl rfl ?_
    refine o_icmp (q := 76) (q' := 70) A20 at_67 (by decide) (by decide) rfl (fun _ => ?_) (fun hc => absurd (show p ≠ q from (fun h => Int32.lt_irrefl (h ▸ hgt))) hc)
    refine o_aload (q := 78) A20 at_76 rfl rfl rfl ?_
    refine o_callV (q := 81) (W := 0) (k' := 11) (n' := 13) (st := []) (argsL := []) (b' := b5) A20 (rm5 l Z a0 hw y (2 - 1) (fun i => if i = 0 then q else p) h20 n0 S5 (by decide)) at_78 S5.1 (hw _ (List.mem_of_getElem? (i := 15) rfl)) (hw _ (List.mem_of_getElem? (i := 16) rfl)) (hw _ (List.mem_of_getElem? (i := 18) rfl)) (hw _ (List.mem_of_getElem? (i := 17) rfl)) (hw _ (List.mem_of_getElem? (i := 2) rfl)) (hw _ (List.mem_of_getElem? (i := 19) rfl)) (by decide) pd5 rfl rfl rfl rfl rfl (by decide) (by decide) rfl rfl (by decide) (by decide) rfl (fun v21 T21 h21 A21 hQ21 => ?_)
    obtain ⟨rfl, rfl⟩ := hQ21
    show oFin _ _ _ _ T21 81 #[.val (.int p), .val (.int q), .val (.ref s), .val (.ref u), .val (.ref y)] [.int (0 : Int32)]
    refine o_if (q := 101) (q' := 84) A21 at_81 (by decide) (by decide) rfl (fun hc => absurd (show (0 : Int32) ≠ (0 : Int32) from hc) (by decide)) (fun _ => ?_)
    refine o_aload (q := 86) A21 at_84 rfl rfl rfl ?_
    refine o_callV (q := 89) (W := 0) (k' := 11) (n' := 13) (st := []) (argsL := []) (b' := b6) A21 (rm6 l Z a0 hw y (2 - 1) (fun i => if i = 0 then q else p) h21 n0 S5 (by decide) (by decide)) at_86 S5.1 (hw _ (List.mem_of_getElem? (i := 20) rfl)) (hw _ (List.mem_of_getElem? (i := 21) rfl)) (hw _ (List.mem_of_getElem? (i := 23) rfl)) (hw _ (List.mem_of_getElem? (i := 22) rfl)) (hw _ (List.mem_of_getElem? (i := 2) rfl)) (hw _ (List.mem_of_getElem? (i := 24) rfl)) (by decide) pd6 rfl rfl rfl rfl rfl (by decide) (by decide) rfl rfl (by decide) (by decide) rfl (fun v22 T22 h22 A22 hQ22 => ?_)
    obtain ⟨rfl, rfl⟩ := hQ22
    show oFin _ _ _ _ T22 89 #[.val (.int p), .val (.int q), .val (.ref s), .val (.ref u), .val (.ref y)] [.int q]
    refine o_iloadN (q := 90) A22 at_89 rfl rfl ?_
    refine o_iloadN (q := 91) A22 at_90 rfl rfl ?_
    refine o_callS (q := 94) (W := 1) (k' := 11) (n' := 13) (st := [.int q]) (argsL := [.int p, .int q]) (b' := b1) A22 (rm1 l Z a0 hw p q h22 n0) at_91 (hw _ (List.mem_of_getElem? (i := 59) rfl)) (hw _ (List.mem_of_getElem? (i := 35) rfl)) (hw _ (List.mem_of_getElem? (i := 36) rfl)) (hw _ (List.mem_of_getElem? (i := 37) rfl)) (by decide) pd1 rfl rfl rfl rfl rfl (by decide) (by decide) rfl rfl (by decide) (by decide) rfl (fun v23 T23 h23 A23 hQ23 => ?_)
    obtain ⟨rfl, rfl⟩ := hQ23
    show oFin _ _ _ _ T23 94 #[.val (.int p), .val (.int q), .val (.ref s), .val (.ref u), .val (.ref y)] [.int (if q < p then q else p), .int q]
    rw [if_pos hgt]
    show oFin _ _ _ _ T23 94 #[.val (.int p), .val (.int q), .val (.ref s), .val (.ref u), .val (.ref y)] [.int q, .int q]
    refine o_icmp (q := 101) (q' := 97) A23 at_94 (by decide) (by decide) rfl (fun hc => absurd (show q ≠ q from hc) (fun h => h rfl)) (fun _ => ?_)
    refine o_iconst (q := 98) (z := 1) A23 at_97 rfl rfl ?_
    refine o_goto (q := 102) A23 at_98 (by decide) (by decide) ?_
    exact o_retN A23 rfl (by simp) at_102 (by decide) (by decide) rfl
set_option maxRecDepth 65536 in
set_option maxHeartbeats 40000000 in
theorem comes_1 {Post : Tables → Env → Array Value → State → Outcome → State → Prop} (hpost : ∀ tb e args s v u, (limb_1_1.after args s (.returned v) u = true ∧ limb_1_2.after args s (.returned v) u = true ∧ True) → FrameEnd s (.returned v) u (Jvm.fieldLocs frame_1_writes args s ++ Jvm.arrayLocs frame_1_arrays args s ++ Jvm.staticLocs frame_1_statics s) 32 128 → Post tb e args s (.returned v) u) :
    ArmFor flags0 classFile x code maxLocals ret World_1 tables_1 room_1 Calls_1 rest_1 Pre_1 Post := by
  intro l hfl _ _ p e ha hc hk s m args below hf hA hF happ hP
  obtain ⟨hcalls, hrest, hpre⟩ := hP
  obtain ⟨-, -, -, hnamed, -, -, -, hat⟩ := (Spec.applies_iff hf).mp happ
  obtain ⟨hg, hn⟩ := and_e (Cond.before_iff.mp (show (Jvm.Cond.and given_1 narrow_1).before args s = true from hpre))
  obtain ⟨hcnt, g0⟩ := and_e hg
  obtain ⟨a0, g1⟩ := and_e g0
  obtain ⟨w0, w1, rfl⟩ : ∃ w0 w1 : Value, args = #[w0, w1] := by
    have hs : args.size = 2 := by simpa [Cond.value, given_1] using hcnt
    obtain ⟨L⟩ := args
    match L, hs with
    | [w0, w1], _ => exact ⟨w0, w1, rfl⟩
  have hw := fun d (hd : d ∈ tables_1) => atoms_spec (ws := Jvm.Cond.code x code maxLocals ret :: tables_1) hat d (List.mem_cons_of_mem _ hd)
  obtain ⟨i0, ei0⟩ := is_v a0
  obtain rfl : w0 = (.int i0) := Option.some.inj ei0
  obtain ⟨i1, ei1⟩ := is_v g1
  obtain rfl : w1 = (.int i1) := Option.some.inj ei1
  obtain ⟨n, o, h1, h2, h3, _, L, rfl, ⟨rfl, N⟩, hq⟩ := rm0 l s _ hw tables_1 i0 i1 s.heap s.heap.size (Nat.le_refl _) p e ha hc hk s m _ below hf ((Spec.applies_iff_loose hf).mp happ).1 ⟨rfl, State.Warmed39.refl s, rfl⟩ trivial
  refine ⟨n, _, h1, h2, h3, hpost _ _ _ _ _ _ ⟨Cond.after_iff.mpr rfl, Cond.after_iff.mpr (eq_i res_at (Term.int_eval (1)) rfl), trivial⟩ ⟨hq.1, hq.2.1, (hq.2.2.sift fun y hy => Or.inr (N y hy)).mono (by decide) (by decide)⟩⟩
theorem main_1_1 : Claimed_1_1 := comes_1 fun _ _ _ _ _ _ h hF => ⟨h.1, hF⟩
theorem main_1_2 : Claimed_1_2 := comes_1 fun _ _ _ _ _ _ h hF => ⟨h.2.1, hF⟩
end Jvm.Pilot.@@N@@
namespace Jvm.Pilot.@@N@@
open Jvm Jvm.ClassFile Sem Op Lib Jvm.Free Jvm.Stand Jvm.Pilot.@@N@@.Jvm.D
/-! MADE BY PROGRAM (witnessworld.py) out of the Statement's table words and the real class files: 12 classes; the members and pool entries that the words name. The judged class is class 1, her method 1. -/
namespace start1
open Jvm.ClassFile
def u (s : String) : CpInfo := .utf8 (stringToUtf16 s)
/-- a pool by its gaps: so many unusable entries, then the entry; so many at the end -/
def gap : Nat → List CpInfo → List CpInfo
  | 0, r => r
  | n + 1, r => .unusable :: gap n r
def poolList (es : List (Nat × CpInfo)) (last : Nat) : List CpInfo := es.foldr (fun e r => gap e.1 (e.2 :: r)) (gap last [])
def pool (es : List (Nat × CpInfo)) (last : Nat) : Array CpInfo := ⟨poolList es last⟩
def fileOf (pool : Array CpInfo) (this : Nat) (attrs : Array Attribute := #[]) (ms : Array MethodInfo := #[]) (fl : Nat := 33) (sup : Nat := 0) (ifs : Array Nat := #[]) (fds : Array FieldInfo := #[]) : ClassFile where
  minorVersion := 0
  majorVersion := 65
  constantPool := pool
  accessFlags := fl
  thisClass := this
  superClass := sup
  interfaces := ifs
  fields := fds
  methods := ms
  attributes := attrs
def plain (name : String) (sup : Option ClassId) : Class where
  name := name
  kind := .ordinary
  loader := none
  accessFlags := 33
  super := sup
  interfaces := #[]
  cf := none
  fields := #[]
  methods := #[]
  instanceTypes := #[]
  staticTypes := #[]
  resolved := #[]
  callSites := []
  init := .initialized
  statics := none
  mirror := none

def pool0 : Array CpInfo := pool [(5, u "<init>"), (0, u "()V"), (1, .class_ 10), (1, u "java/lang/Object"), (85, u "clone"), (0, u "()Ljava/lang/Object;")] 26

def k0c0 : Code := { maxStack := 0, maxLocals := 1, code := object_method_1_code, exceptionTable := #[], attributes := #[] }
def k0m0 : Method := { name := "<init>", desc := "()V", sig := { parameters := [], returnType := none }, accessFlags := 1, code := some k0c0 }
def k0m1 : Method := { name := "clone", desc := "()Ljava/lang/Object;", sig := { parameters := [], returnType := some (.object "java/lang/Object") }, accessFlags := 260, code := none }
/-- java/lang/Object -/
def k0 : Class := { plain "java/lang/Object" none with
  accessFlags := 33
  interfaces := #[]
  cf := some (fileOf pool0 8 #[] #[{ accessFlags := 1, nameIndex := 5, descriptorIndex := 6, attributes := #[] }, { accessFlags := 260, nameIndex := 96, descriptorIndex := 97, attributes := #[] }] 33 0 #[] #[])
  fields := #[]
  methods := #[k0m0, k0m1]
  instanceTypes := #[]
  staticTypes := #[]
  resolved := Array.replicate 124 none
  statics := none }

def pool1 : Array CpInfo := pool [(2, .class_ 4), (1, u "java/lang/Object"), (0, u "<init>"), (0, u "()V"), (0, .methodref 8 9), (0, .class_ 10), (0, .nameAndType 11 12), (0, u "com/example/irwell/irwell/tableau/DependencySet"), (0, u "of"), (0, u "(I)Lcom/example/irwell/irwell/tableau/DependencySet;"), (0, .methodref 8 14), (0, .nameAndType 15 16), (0, u "isEmpty"), (0, u "()Z"), (0, .methodref 8 18), (0, .nameAndType 19 20), (0, u "last"), (0, u "()I"), (0, .methodref 8 22), (0, .nameAndType 23 24), (0, u "withoutLast"), (0, u "()Lcom/example/irwell/irwell/tableau/DependencySet;"), (0, .methodref 8 26), (0, .nameAndType 27 28), (0, u "union"), (0, u "(Lcom/example/irwell/irwell/tableau/DependencySet;)Lcom/example/irwell/irwell/tableau/DependencySet;"), (0, .methodref 30 31), (0, .class_ 32), (0, .nameAndType 33 34), (0, u "java/lang/Math"), (0, u "max"), (0, u "(II)I"), (0, .methodref 30 36), (0, .nameAndType 37 34), (0, u "min"), (0, .class_ 39), (0, u "com/example/irwell/irwell/tableau/DependencySetOfPinLaw"), (2, u "law"), (0, u "(II)Z")] 3

def k1m0 : Method := { name := "<init>", desc := "()V", sig := { parameters := [], returnType := none }, accessFlags := 1, code := none }
def k1c1 : Code := { maxStack := 3, maxLocals := 5, code := code, exceptionTable := #[], attributes := #[] }
def k1m1 : Method := { name := "law", desc := "(II)Z", sig := { parameters := [.int, .int], returnType := some .boolean }, accessFlags := 9, code := some k1c1 }
/-- com/example/irwell/irwell/tableau/DependencySetOfPinLaw -/
def k1 : Class := { plain "com/example/irwell/irwell/tableau/DependencySetOfPinLaw" (some 0) with
  accessFlags := 49
  interfaces := #[]
  cf := some (fileOf pool1 38 #[] #[{ accessFlags := 1, nameIndex := 5, descriptorIndex := 6, attributes := #[] }, { accessFlags := 9, nameIndex := 42, descriptorIndex := 43, attributes := #[] }] 49 2 #[] #[])
  fields := #[]
  methods := #[k1m0, k1m1]
  instanceTypes := #[]
  staticTypes := #[]
  resolved := Array.replicate 47 none
  statics := none }

def pool2 : Array CpInfo := pool [(1, .methodref 2 3), (0, .class_ 4), (0, .nameAndType 5 6), (0, u "java/lang/Object"), (0, u "<init>"), (0, u "()V"), (0, .fieldref 8 9), (0, .class_ 10), (0, .nameAndType 11 12), (0, u "com/example/irwell/irwell/tableau/DependencySet"), (0, u "points"), (0, u "[I"), (0, .methodref 8 14), (0, .nameAndType 5 15), (0, u "([I)V"), (0, .methodref 17 18), (0, .class_ 19), (0, .nameAndType 20 21), (0, u "java/util/Arrays"), (0, u "copyOf"), (0, u "([II)[I"), (6, u "EMPTY"), (0, u "Lcom/example/irwell/irwell/tableau/DependencySet;"), (2, u "of"), (0, u "(I)Lcom/example/irwell/irwell/tableau/DependencySet;"), (0, u "isEmpty"), (0, u "()Z"), (1, u "last"), (0, u "()I"), (0, u "union"), (0, u "(Lcom/example/irwell/irwell/tableau/DependencySet;)Lcom/example/irwell/irwell/tableau/DependencySet;"), (1, u "withoutLast"), (0, u "()Lcom/example/irwell/irwell/tableau/DependencySet;")] 4

def k2c0 : Code := { maxStack := 2, maxLocals := 2, code := prog_1_method_1_code, exceptionTable := #[], attributes := #[] }
def k2m0 : Method := { name := "<init>", desc := "([I)V", sig := { parameters := [(.array .int)], returnType := none }, accessFlags := 2, code := some k2c0 }
def k2c1 : Code := { maxStack := 6, maxLocals := 1, code := prog_1_method_2_code, exceptionTable := #[], attributes := #[] }
def k2m1 : Method := { name := "of", desc := "(I)Lcom/example/irwell/irwell/tableau/DependencySet;", sig := { parameters := [.int], returnType := some (.object "com/example/irwell/irwell/tableau/DependencySet") }, accessFlags := 8, code := some k2c1 }
def k2c2 : Code := { maxStack := 1, maxLocals := 1, code := prog_1_method_3_code, exceptionTable := #[], attributes := #[] }
def k2m2 : Method := { name := "isEmpty", desc := "()Z", sig := { parameters := [], returnType := some .boolean }, accessFlags := 0, code := some k2c2 }
def k2c3 : Code := { maxStack := 3, maxLocals := 1, code := prog_1_method_4_code, exceptionTable := #[], attributes := #[] }
def k2m3 : Method := { name := "last", desc := "()I", sig := { parameters := [], returnType := some .int }, accessFlags := 0, code := some k2c3 }
def k2c4 : Code := { maxStack := 4, maxLocals := 8, code := prog_1_method_5_code, exceptionTable := #[], attributes := #[] }
def k2m4 : Method := { name := "union", desc := "(Lcom/example/irwell/irwell/tableau/DependencySet;)Lcom/example/irwell/irwell/tableau/DependencySet;", sig := { parameters := [(.object "com/example/irwell/irwell/tableau/DependencySet")], returnType := some (.object "com/example/irwell/irwell/tableau/DependencySet") }, accessFlags := 0, code := some k2c4 }
def k2c5 : Code := { maxStack := 5, maxLocals := 1, code := prog_1_method_6_code, exceptionTable := #[], attributes := #[] }
def k2m5 : Method := { name := "withoutLast", desc := "()Lcom/example/irwell/irwell/tableau/DependencySet;", sig := { parameters := [], returnType := some (.object "com/example/irwell/irwell/tableau/DependencySet") }, accessFlags := 0, code := some k2c5 }
/-- com/example/irwell/irwell/tableau/DependencySet -/
def k2 : Class := { plain "com/example/irwell/irwell/tableau/DependencySet" (some 0) with
  accessFlags := 48
  interfaces := #[]
  cf := some (fileOf pool2 8 #[] #[{ accessFlags := 2, nameIndex := 5, descriptorIndex := 15, attributes := #[] }, { accessFlags := 8, nameIndex := 32, descriptorIndex := 33, attributes := #[] }, { accessFlags := 0, nameIndex := 34, descriptorIndex := 35, attributes := #[] }, { accessFlags := 0, nameIndex := 37, descriptorIndex := 38, attributes := #[] }, { accessFlags := 0, nameIndex := 39, descriptorIndex := 40, attributes := #[] }, { accessFlags := 0, nameIndex := 42, descriptorIndex := 43, attributes := #[] }] 48 2 #[] #[{ accessFlags := 24, nameIndex := 28, descriptorIndex := 29, attributes := #[] }, { accessFlags := 18, nameIndex := 11, descriptorIndex := 12, attributes := #[] }])
  fields := #[{ name := "EMPTY", type := (.object "com/example/irwell/irwell/tableau/DependencySet"), accessFlags := 24, slot := 0, constantValue := 0 }, { name := "points", type := (.array .int), accessFlags := 18, slot := 0, constantValue := 0 }]
  methods := #[k2m0, k2m1, k2m2, k2m3, k2m4, k2m5]
  instanceTypes := #[(.array .int)]
  staticTypes := #[(.object "com/example/irwell/irwell/tableau/DependencySet")]
  resolved := Array.replicate 48 none
  statics := none }

def pool3 : Array CpInfo := pool [(2, .class_ 4), (1, u "java/lang/Object"), (0, u "<init>"), (0, u "()V"), (7, .class_ 16), (1, u "java/util/Arrays"), (57, .class_ 76), (1, u "java/util/Arrays$NaturalOrder"), (32, u "()Ljava/lang/Object;"), (3, .class_ 115), (1, u "java/util/Arrays$LegacyMergeSort"), (1, u "Z"), (10, .nameAndType 129 109), (0, u "clone"), (20, .methodref 151 152), (0, .class_ 153), (0, .nameAndType 154 155), (0, u "java/lang/System"), (0, u "arraycopy"), (0, u "(Ljava/lang/Object;ILjava/lang/Object;II)V"), (146, u "copyOf"), (1, .methodref 305 306), (0, .class_ 307), (0, .nameAndType 308 309), (0, u "java/lang/Math"), (0, u "min"), (0, u "(II)I"), (6, .methodref 317 128), (0, .class_ 318), (0, u "[I"), (56, .class_ 376), (0, u "java/util/Arrays$ArrayList"), (68, u "$assertionsDisabled"), (269, u "MIN_ARRAY_SORT_GRAN"), (0, u "I"), (2, u "INSERTIONSORT_THRESHOLD"), (151, u "([II)[I"), (103, .class_ 976), (0, u "java/util/Arrays$ArrayItr")] 52

def k3m0 : Method := { name := "<init>", desc := "()V", sig := { parameters := [], returnType := none }, accessFlags := 2, code := none }
def k3c1 : Code := { maxStack := 6, maxLocals := 3, code := jdk_65_method_123_code, exceptionTable := #[], attributes := #[] }
def k3m1 : Method := { name := "copyOf", desc := "([II)[I", sig := { parameters := [(.array .int), .int], returnType := some (.array .int) }, accessFlags := 9, code := some k3c1 }
/-- java/util/Arrays -/
def k3 : Class := { plain "java/util/Arrays" (some 0) with
  accessFlags := 49
  interfaces := #[]
  cf := some (fileOf pool3 14 #[.nestMembers #[975, 375, 113, 74]] #[{ accessFlags := 2, nameIndex := 5, descriptorIndex := 6, attributes := #[] }, { accessFlags := 9, nameIndex := 302, descriptorIndex := 871, attributes := #[] }] 49 2 #[] #[{ accessFlags := 26, nameIndex := 715, descriptorIndex := 716, attributes := #[] }, { accessFlags := 26, nameIndex := 719, descriptorIndex := 716, attributes := #[] }, { accessFlags := 4120, nameIndex := 445, descriptorIndex := 117, attributes := #[] }])
  fields := #[{ name := "MIN_ARRAY_SORT_GRAN", type := .int, accessFlags := 26, slot := 0, constantValue := 0 }, { name := "INSERTIONSORT_THRESHOLD", type := .int, accessFlags := 26, slot := 1, constantValue := 0 }, { name := "$assertionsDisabled", type := .boolean, accessFlags := 4120, slot := 2, constantValue := 0 }]
  methods := #[k3m0, k3m1]
  instanceTypes := #[]
  staticTypes := #[.int, .int, .boolean]
  resolved := Array.replicate 1029 none
  statics := none }

def pool4 : Array CpInfo := pool [(1, .class_ 2), (0, u "java/lang/Math"), (1, .class_ 6), (1, u "java/lang/Object"), (0, u "<init>"), (0, u "()V"), (89, .class_ 100), (1, u "java/lang/Math$RandomNumberGeneratorHolder"), (71, u "negativeZeroFloatBits"), (0, u "J"), (2, u "negativeZeroDoubleBits"), (21, u "max"), (2, u "min"), (43, u "$assertionsDisabled"), (0, u "Z"), (88, u "(II)I"), (2, u "twoToTheDoubleScaleDown"), (0, u "D"), (4, u "twoToTheDoubleScaleUp"), (9, u "E"), (3, u "PI"), (2, u "TAU"), (2, u "DEGREES_TO_RADIANS"), (0, u "RADIANS_TO_DEGREES")] 94

def k4m0 : Method := { name := "<init>", desc := "()V", sig := { parameters := [], returnType := none }, accessFlags := 2, code := none }
def k4c1 : Code := { maxStack := 2, maxLocals := 2, code := jdk_29_method_65_code, exceptionTable := #[], attributes := #[] }
def k4m1 : Method := { name := "max", desc := "(II)I", sig := { parameters := [.int, .int], returnType := some .int }, accessFlags := 9, code := some k4c1 }
def k4c2 : Code := { maxStack := 2, maxLocals := 2, code := jdk_29_method_69_code, exceptionTable := #[], attributes := #[] }
def k4m2 : Method := { name := "min", desc := "(II)I", sig := { parameters := [.int, .int], returnType := some .int }, accessFlags := 9, code := some k4c2 }
/-- java/lang/Math -/
def k4 : Class := { plain "java/lang/Math" (some 0) with
  accessFlags := 49
  interfaces := #[]
  cf := some (fileOf pool4 1 #[.nestMembers #[98]] #[{ accessFlags := 2, nameIndex := 7, descriptorIndex := 8, attributes := #[] }, { accessFlags := 9, nameIndex := 198, descriptorIndex := 335, attributes := #[] }, { accessFlags := 9, nameIndex := 201, descriptorIndex := 335, attributes := #[] }] 49 4 #[] #[{ accessFlags := 25, nameIndex := 354, descriptorIndex := 339, attributes := #[] }, { accessFlags := 25, nameIndex := 358, descriptorIndex := 339, attributes := #[] }, { accessFlags := 25, nameIndex := 361, descriptorIndex := 339, attributes := #[] }, { accessFlags := 26, nameIndex := 364, descriptorIndex := 339, attributes := #[] }, { accessFlags := 26, nameIndex := 365, descriptorIndex := 339, attributes := #[] }, { accessFlags := 26, nameIndex := 172, descriptorIndex := 173, attributes := #[] }, { accessFlags := 26, nameIndex := 176, descriptorIndex := 173, attributes := #[] }, { accessFlags := 8, nameIndex := 344, descriptorIndex := 339, attributes := #[] }, { accessFlags := 8, nameIndex := 338, descriptorIndex := 339, attributes := #[] }, { accessFlags := 4120, nameIndex := 245, descriptorIndex := 246, attributes := #[] }])
  fields := #[{ name := "E", type := .double, accessFlags := 25, slot := 0, constantValue := 0 }, { name := "PI", type := .double, accessFlags := 25, slot := 1, constantValue := 0 }, { name := "TAU", type := .double, accessFlags := 25, slot := 2, constantValue := 0 }, { name := "DEGREES_TO_RADIANS", type := .double, accessFlags := 26, slot := 3, constantValue := 0 }, { name := "RADIANS_TO_DEGREES", type := .double, accessFlags := 26, slot := 4, constantValue := 0 }, { name := "negativeZeroFloatBits", type := .long, accessFlags := 26, slot := 5, constantValue := 0 }, { name := "negativeZeroDoubleBits", type := .long, accessFlags := 26, slot := 6, constantValue := 0 }, { name := "twoToTheDoubleScaleUp", type := .double, accessFlags := 8, slot := 7, constantValue := 0 }, { name := "twoToTheDoubleScaleDown", type := .double, accessFlags := 8, slot := 8, constantValue := 0 }, { name := "$assertionsDisabled", type := .boolean, accessFlags := 4120, slot := 9, constantValue := 0 }]
  methods := #[k4m0, k4m1, k4m2]
  instanceTypes := #[]
  staticTypes := #[.double, .double, .double, .double, .double, .long, .long, .double, .double, .boolean]
  resolved := Array.replicate 460 none
  statics := none }

def pool5 : Array CpInfo := pool [(2, .class_ 4), (1, u "java/lang/Object"), (0, u "<init>"), (0, u "()V"), (1, .class_ 10), (1, u "java/lang/System"), (0, u "allowSecurityManager"), (0, u "I"), (16, u "cons"), (0, u "Ljava/io/Console;"), (77, .class_ 110), (1, u "java/lang/System$CallersHolder"), (43, u "initialErrStream"), (0, u "Ljava/io/PrintStream;"), (19, u "security"), (0, u "Ljava/lang/SecurityManager;"), (31, .class_ 209), (0, u "java/lang/System$1"), (7, u "props"), (0, u "Ljava/util/Properties;"), (2, u "lineSeparator"), (0, u "Ljava/lang/String;"), (96, .class_ 321), (1, u "java/lang/System$LoggerFinder"), (5, .class_ 328), (0, u "java/lang/System$Logger"), (67, u "err"), (2, u "out"), (91, u "notSupportedJnuEncoding"), (15, u "in"), (17, u "initialIn"), (0, u "Ljava/io/InputStream;"), (35, u "bootLayer"), (0, u "Ljava/lang/ModuleLayer;"), (99, .class_ 664), (0, u "java/lang/System$2"), (9, u "NEVER"), (2, u "MAYBE"), (49, u "arraycopy"), (0, u "(Ljava/lang/Object;ILjava/lang/Object;II)V"), (72, .class_ 802), (0, u "java/lang/System$Logger$Level")] 31

def k5m0 : Method := { name := "<init>", desc := "()V", sig := { parameters := [], returnType := none }, accessFlags := 2, code := none }
def k5m1 : Method := { name := "arraycopy", desc := "(Ljava/lang/Object;ILjava/lang/Object;II)V", sig := { parameters := [(.object "java/lang/Object"), .int, (.object "java/lang/Object"), .int, .int], returnType := none }, accessFlags := 265, code := none }
/-- java/lang/System -/
def k5 : Class := { plain "java/lang/System" (some 0) with
  accessFlags := 49
  interfaces := #[]
  cf := some (fileOf pool5 8 #[.nestMembers #[319, 327, 801, 108, 663, 208]] #[{ accessFlags := 2, nameIndex := 5, descriptorIndex := 6, attributes := #[] }, { accessFlags := 265, nameIndex := 727, descriptorIndex := 728, attributes := #[] }] 49 2 #[] #[{ accessFlags := 25, nameIndex := 507, descriptorIndex := 526, attributes := #[] }, { accessFlags := 25, nameIndex := 399, descriptorIndex := 155, attributes := #[] }, { accessFlags := 25, nameIndex := 396, descriptorIndex := 155, attributes := #[] }, { accessFlags := 10, nameIndex := 525, descriptorIndex := 526, attributes := #[] }, { accessFlags := 26, nameIndex := 674, descriptorIndex := 12, attributes := #[] }, { accessFlags := 26, nameIndex := 677, descriptorIndex := 12, attributes := #[] }, { accessFlags := 10, nameIndex := 11, descriptorIndex := 12, attributes := #[] }, { accessFlags := 74, nameIndex := 175, descriptorIndex := 176, attributes := #[] }, { accessFlags := 10, nameIndex := 491, descriptorIndex := 222, attributes := #[] }, { accessFlags := 74, nameIndex := 29, descriptorIndex := 30, attributes := #[] }, { accessFlags := 74, nameIndex := 154, descriptorIndex := 155, attributes := #[] }, { accessFlags := 10, nameIndex := 217, descriptorIndex := 218, attributes := #[] }, { accessFlags := 10, nameIndex := 221, descriptorIndex := 222, attributes := #[] }, { accessFlags := 8, nameIndex := 562, descriptorIndex := 563, attributes := #[] }])
  fields := #[{ name := "in", type := (.object "java/io/InputStream"), accessFlags := 25, slot := 0, constantValue := 0 }, { name := "out", type := (.object "java/io/PrintStream"), accessFlags := 25, slot := 1, constantValue := 0 }, { name := "err", type := (.object "java/io/PrintStream"), accessFlags := 25, slot := 2, constantValue := 0 }, { name := "initialIn", type := (.object "java/io/InputStream"), accessFlags := 10, slot := 3, constantValue := 0 }, { name := "NEVER", type := .int, accessFlags := 26, slot := 4, constantValue := 0 }, { name := "MAYBE", type := .int, accessFlags := 26, slot := 5, constantValue := 0 }, { name := "allowSecurityManager", type := .int, accessFlags := 10, slot := 6, constantValue := 0 }, { name := "security", type := (.object "java/lang/SecurityManager"), accessFlags := 74, slot := 7, constantValue := 0 }, { name := "notSupportedJnuEncoding", type := (.object "java/lang/String"), accessFlags := 10, slot := 8, constantValue := 0 }, { name := "cons", type := (.object "java/io/Console"), accessFlags := 74, slot := 9, constantValue := 0 }, { name := "initialErrStream", type := (.object "java/io/PrintStream"), accessFlags := 74, slot := 10, constantValue := 0 }, { name := "props", type := (.object "java/util/Properties"), accessFlags := 10, slot := 11, constantValue := 0 }, { name := "lineSeparator", type := (.object "java/lang/String"), accessFlags := 10, slot := 12, constantValue := 0 }, { name := "bootLayer", type := (.object "java/lang/ModuleLayer"), accessFlags := 8, slot := 13, constantValue := 0 }]
  methods := #[k5m0, k5m1]
  instanceTypes := #[]
  staticTypes := #[(.object "java/io/InputStream"), (.object "java/io/PrintStream"), (.object "java/io/PrintStream"), (.object "java/io/InputStream"), .int, .int, .int, (.object "java/lang/SecurityManager"), (.object "java/lang/String"), (.object "java/io/Console"), (.object "java/io/PrintStream"), (.object "java/util/Properties"), (.object "java/lang/String"), (.object "java/lang/ModuleLayer")]
  resolved := Array.replicate 834 none
  statics := none }

def pool6 : Array CpInfo := pool [(1, .class_ 2), (0, u "java/lang/Cloneable"), (0, .class_ 4), (0, u "java/lang/Object")] 2

/-- java/lang/Cloneable -/
def k6 : Class := { plain "java/lang/Cloneable" (some 0) with
  accessFlags := 1537
  interfaces := #[]
  cf := some (fileOf pool6 1 #[] #[] 1537 3 #[] #[])
  fields := #[]
  methods := #[]
  instanceTypes := #[]
  staticTypes := #[]
  resolved := Array.replicate 7 none
  statics := none }

def pool7 : Array CpInfo := pool [(1, u "java/io/Serializable"), (0, .class_ 1), (0, u "java/lang/Object"), (0, .class_ 3)] 3

/-- java/io/Serializable -/
def k7 : Class := { plain "java/io/Serializable" (some 0) with
  accessFlags := 1537
  interfaces := #[]
  cf := some (fileOf pool7 2 #[] #[] 1537 4 #[] #[])
  fields := #[]
  methods := #[]
  instanceTypes := #[]
  staticTypes := #[]
  resolved := Array.replicate 8 none
  statics := none }

/-- the primitive byte -/
def k8 : Class := { plain "byte" none with kind := .primitive 'B', accessFlags := 0x411 }
/-- [B -/
def k9 : Class := { plain "[B" (some 0) with kind := .array 8 .byte, interfaces := #[6, 7], accessFlags := 1041 }

/-- the primitive int -/
def k10 : Class := { plain "int" none with kind := .primitive 'I', accessFlags := 0x411 }
/-- [I -/
def k11 : Class := { plain "[I" (some 0) with kind := .array 10 .int, interfaces := #[6, 7], accessFlags := 1041 }

def heap : Heap := #[]
def classes : Array Class := #[k0, k1, k2, k3, k4, k5, k6, k7, k8, k9, k10, k11]
def interned : List (Array UInt16 × Addr) := []
def slotsUsed : Nat := 0
def theMethod : MethodId := ⟨1, 1⟩
def args0 : Array Value := #[.int 5, .int 6]
def aboutOver (below : List Frame) : State where
  vm := { classes := classes, interned := interned.toArray }
  heap := heap
  slotsUsed := slotsUsed
  threads := #[{ frames := .invoking theMethod args0 :: below }]
def below0 : List Frame := [.native { method := ⟨0, 0⟩, args := #[] }]
def about1 : State := aboutOver below0
def p0 : Program := .bare "" "" ""
def e0 : Env := launch0.env 0 0 0
theorem w_frames : about1.frames = Frame.invoking theMethod args0 :: below0 := rfl
set_option maxRecDepth 65536 in
theorem w_args : argsFit about1.vm theMethod args0 = true := by decide +kernel
set_option maxRecDepth 65536 in
theorem w_heap : heapFits about1 = true := by decide +kernel
set_option maxRecDepth 65536 in
theorem w_runnable : about1.curStatus? = some .runnable := by decide +kernel
set_option maxRecDepth 65536 in
theorem w_alone : about1.alone = true := by decide +kernel
set_option maxRecDepth 65536 in
theorem w_named : about1.methodNamed? x = some theMethod := by decide +kernel
set_option maxRecDepth 65536 in
theorem w_hears : about1.hears theMethod below0 = true := by decide +kernel
set_option maxRecDepth 65536 in
theorem w_ripe : about1.ripe theMethod args0 below0 = true := by decide +kernel
theorem w_running : about1.status = .running := rfl
set_option maxRecDepth 65536 in
theorem w_room : about1.hasRoom e0.platform room_1 = true :=
  launch0.hasRoom_least _ room_1 (by decide +kernel) (by decide +kernel) (by decide +kernel) (by decide +kernel) (by decide +kernel) (by decide +kernel)
theorem allAtoms_all (ts : List Jvm.Cond) (a : Array Jvm.Value) (st : Jvm.State) : (allAtoms ts).before a st = ts.all (fun c => c.before a st) := by
  induction ts with
  | nil => rfl
  | cons c t ih =>
    show (Jvm.Cond.and c (allAtoms t)).before a st = _
    rw [Jvm.Cond.before_and, ih, List.all_cons]
def words1 : List Jvm.Cond := Jvm.Cond.code x code maxLocals ret :: tables_1
/-- a 'code' word, met by the world's own term for the bytes: nothing is compared byte by byte -/
theorem code_word {y : MethodName} {bytes : ByteArray} {mx : Nat} {rt : Option FieldType} {a : Array Value} {s : State} {m : MethodId} {meth : Method} {c : Code} (h1 : s.methodNamed? y = some m) (h2 : s.vm.method? m = some meth) (h3 : meth.code = some c) (h4 : c.code = bytes)
    (h5 : (c.maxLocals == mx && c.exceptionTable.isEmpty && decide (c.maxStack ≤ mostOperands) && decide (meth.sig.returnType = rt) && !meth.locks && decide (parseMethodDescriptor y.desc = some meth.sig)) = true) : (Jvm.Cond.code y bytes mx rt).before a s = true := by
  simp only [Bool.and_eq_true, beq_iff_eq, Bool.not_eq_true', decide_eq_true_eq] at h5
  obtain ⟨⟨⟨⟨⟨g1, g2⟩, g3⟩, g4⟩, g5⟩, g6⟩ := h5
  simp [Cond.before, Cond.holds, Cond.value, h1, h2, h3, h4, g1, g2, g3, g4, g5, g6]
def isCode : Jvm.Cond → Bool
  | .code _ _ _ _ => true
  | _ => false
theorem all_split {L : List Jvm.Cond} {P : Jvm.Cond → Bool} (h1 : L.all (fun c => isCode c || P c) = true) (h2 : ∀ c ∈ L.filter isCode, P c = true) : L.all P = true := by
  refine List.all_eq_true.mpr fun c hc => ?_
  have h := List.all_eq_true.mp h1 c hc
  rcases Bool.eq_false_or_eq_true (isCode c) with hi | hi
  · exact h2 c (List.mem_filter.mpr ⟨hc, hi⟩)
  · simpa [hi] using h
set_option maxRecDepth 65536 in
theorem w_c0 : (Jvm.Cond.code x code maxLocals ret).before args0 about1 = true := code_word (m := ⟨1, 1⟩) (meth := k1m1) (c := k1c1) (by decide +kernel) rfl rfl rfl (by decide +kernel)
set_option maxRecDepth 65536 in
theorem w_c1 : (Jvm.Cond.code ({ cls := "com/example/irwell/irwell/tableau/DependencySet", name := "of", desc := "(I)Lcom/example/irwell/irwell/tableau/DependencySet;" } : Jvm.MethodName) prog_1_method_2_code (1 : Nat) (Option.some (Jvm.ClassFile.FieldType.object "com/example/irwell/irwell/tableau/DependencySet"))).before args0 about1 = true := code_word (m := ⟨2, 1⟩) (meth := k2m1) (c := k2c1) (by decide +kernel) rfl rfl rfl (by decide +kernel)
set_option maxRecDepth 65536 in
theorem w_c2 : (Jvm.Cond.code ({ cls := "com/example/irwell/irwell/tableau/DependencySet", name := "<init>", desc := "([I)V" } : Jvm.MethodName) prog_1_method_1_code (2 : Nat) (Option.none : Option Jvm.ClassFile.FieldType)).before args0 about1 = true := code_word (m := ⟨2, 0⟩) (meth := k2m0) (c := k2c0) (by decide +kernel) rfl rfl rfl (by decide +kernel)
set_option maxRecDepth 65536 in
theorem w_c3 : (Jvm.Cond.code ({ cls := "java/lang/Object", name := "<init>", desc := "()V" } : Jvm.MethodName) object_method_1_code (1 : Nat) (Option.none : Option Jvm.ClassFile.FieldType)).before args0 about1 = true := code_word (m := ⟨0, 0⟩) (meth := k0m0) (c := k0c0) (by decide +kernel) rfl rfl rfl (by decide +kernel)
set_option maxRecDepth 65536 in
theorem w_c4 : (Jvm.Cond.code ({ cls := "com/example/irwell/irwell/tableau/DependencySet", name := "isEmpty", desc := "()Z" } : Jvm.MethodName) prog_1_method_3_code (1 : Nat) (Option.some Jvm.ClassFile.FieldType.boolean)).before args0 about1 = true := code_word (m := ⟨2, 2⟩) (meth := k2m2) (c := k2c2) (by decide +kernel) rfl rfl rfl (by decide +kernel)
set_option maxRecDepth 65536 in
theorem w_c5 : (Jvm.Cond.code ({ cls := "com/example/irwell/irwell/tableau/DependencySet", name := "last", desc := "()I" } : Jvm.MethodName) prog_1_method_4_code (1 : Nat) (Option.some Jvm.ClassFile.FieldType.int)).before args0 about1 = true := code_word (m := ⟨2, 3⟩) (meth := k2m3) (c := k2c3) (by decide +kernel) rfl rfl rfl (by decide +kernel)
set_option maxRecDepth 65536 in
theorem w_c6 : (Jvm.Cond.code ({ cls := "com/example/irwell/irwell/tableau/DependencySet", name := "withoutLast", desc := "()Lcom/example/irwell/irwell/tableau/DependencySet;" } : Jvm.MethodName) prog_1_method_6_code (1 : Nat) (Option.some (Jvm.ClassFile.FieldType.object "com/example/irwell/irwell/tableau/DependencySet"))).before args0 about1 = true := code_word (m := ⟨2, 5⟩) (meth := k2m5) (c := k2c5) (by decide +kernel) rfl rfl rfl (by decide +kernel)
set_option maxRecDepth 65536 in
theorem w_c7 : (Jvm.Cond.code ({ cls := "java/util/Arrays", name := "copyOf", desc := "([II)[I" } : Jvm.MethodName) jdk_65_method_123_code (3 : Nat) (Option.some (Jvm.ClassFile.FieldType.array Jvm.ClassFile.FieldType.int))).before args0 about1 = true := code_word (m := ⟨3, 1⟩) (meth := k3m1) (c := k3c1) (by decide +kernel) rfl rfl rfl (by decide +kernel)
set_option maxRecDepth 65536 in
theorem w_c8 : (Jvm.Cond.code ({ cls := "java/lang/Math", name := "min", desc := "(II)I" } : Jvm.MethodName) jdk_29_method_69_code (2 : Nat) (Option.some Jvm.ClassFile.FieldType.int)).before args0 about1 = true := code_word (m := ⟨4, 2⟩) (meth := k4m2) (c := k4c2) (by decide +kernel) rfl rfl rfl (by decide +kernel)
set_option maxRecDepth 65536 in
theorem w_c9 : (Jvm.Cond.code ({ cls := "com/example/irwell/irwell/tableau/DependencySet", name := "union", desc := "(Lcom/example/irwell/irwell/tableau/DependencySet;)Lcom/example/irwell/irwell/tableau/DependencySet;" } : Jvm.MethodName) prog_1_method_5_code (8 : Nat) (Option.some (Jvm.ClassFile.FieldType.object "com/example/irwell/irwell/tableau/DependencySet"))).before args0 about1 = true := code_word (m := ⟨2, 4⟩) (meth := k2m4) (c := k2c4) (by decide +kernel) rfl rfl rfl (by decide +kernel)
set_option maxRecDepth 65536 in
theorem w_c10 : (Jvm.Cond.code ({ cls := "java/lang/Math", name := "max", desc := "(II)I" } : Jvm.MethodName) jdk_29_method_65_code (2 : Nat) (Option.some Jvm.ClassFile.FieldType.int)).before args0 about1 = true := code_word (m := ⟨4, 1⟩) (meth := k4m1) (c := k4c1) (by decide +kernel) rfl rfl rfl (by decide +kernel)
def codes1 : List Jvm.Cond := [Jvm.Cond.code x code maxLocals ret, Jvm.Cond.code ({ cls := "com/example/irwell/irwell/tableau/DependencySet", name := "of", desc := "(I)Lcom/example/irwell/irwell/tableau/DependencySet;" } : Jvm.MethodName) prog_1_method_2_code (1 : Nat) (Option.some (Jvm.ClassFile.FieldType.object "com/example/irwell/irwell/tableau/DependencySet")), Jvm.Cond.code ({ cls := "com/example/irwell/irwell/tableau/DependencySet", name := "<init>", desc := "([I)V" } : Jvm.MethodName) prog_1_method_1_code (2 : Nat) (Option.none : Option Jvm.ClassFile.FieldType), Jvm.Cond.code ({ cls := "java/lang/Object", name := "<init>", desc := "()V" } : Jvm.MethodName) object_method_1_code (1 : Nat) (Option.none : Option Jvm.ClassFile.FieldType), Jvm.Cond.code ({ cls := "com/example/irwell/irwell/tableau/DependencySet", name := "isEmpty", desc := "()Z" } : Jvm.MethodName) prog_1_method_3_code (1 : Nat) (Option.some Jvm.ClassFile.FieldType.boolean), Jvm.Cond.code ({ cls := "com/example/irwell/irwell/tableau/DependencySet", name := "last", desc := "()I" } : Jvm.MethodName) prog_1_method_4_code (1 : Nat) (Option.some Jvm.ClassFile.FieldType.int), Jvm.Cond.code ({ cls := "com/example/irwell/irwell/tableau/DependencySet", name := "withoutLast", desc := "()Lcom/example/irwell/irwell/tableau/DependencySet;" } : Jvm.MethodName) prog_1_method_6_code (1 : Nat) (Option.some (Jvm.ClassFile.FieldType.object "com/example/irwell/irwell/tableau/DependencySet")), Jvm.Cond.code ({ cls := "java/util/Arrays", name := "copyOf", desc := "([II)[I" } : Jvm.MethodName) jdk_65_method_123_code (3 : Nat) (Option.some (Jvm.ClassFile.FieldType.array Jvm.ClassFile.FieldType.int)), Jvm.Cond.code ({ cls := "java/lang/Math", name := "min", desc := "(II)I" } : Jvm.MethodName) jdk_29_method_69_code (2 : Nat) (Option.some Jvm.ClassFile.FieldType.int), Jvm.Cond.code ({ cls := "com/example/irwell/irwell/tableau/DependencySet", name := "union", desc := "(Lcom/example/irwell/irwell/tableau/DependencySet;)Lcom/example/irwell/irwell/tableau/DependencySet;" } : Jvm.MethodName) prog_1_method_5_code (8 : Nat) (Option.some (Jvm.ClassFile.FieldType.object "com/example/irwell/irwell/tableau/DependencySet")), Jvm.Cond.code ({ cls := "java/lang/Math", name := "max", desc := "(II)I" } : Jvm.MethodName) jdk_29_method_65_code (2 : Nat) (Option.some Jvm.ClassFile.FieldType.int)]
set_option maxRecDepth 65536 in
theorem codes_eq : words1.filter isCode = codes1 := rfl
theorem w_codes : ∀ c ∈ words1.filter isCode, c.before args0 about1 = true := by
  rw [codes_eq]
  intro c hc
  simp only [codes1, List.mem_cons, List.not_mem_nil, or_false] at hc
  rcases hc with rfl | rfl | rfl | rfl | rfl | rfl | rfl | rfl | rfl | rfl | rfl
  · exact w_c0
  · exact w_c1
  · exact w_c2
  · exact w_c3
  · exact w_c4
  · exact w_c5
  · exact w_c6
  · exact w_c7
  · exact w_c8
  · exact w_c9
  · exact w_c10
set_option maxRecDepth 65536 in
theorem w_t1 : (words1.take 24).all (fun c => isCode c || c.before args0 about1) = true := by decide +kernel
set_option maxRecDepth 65536 in
theorem w_t2 : ((words1.drop 24).take 24).all (fun c => isCode c || c.before args0 about1) = true := by decide +kernel
set_option maxRecDepth 65536 in
theorem w_t3 : ((words1.drop 24).drop 24).all (fun c => isCode c || c.before args0 about1) = true := by decide +kernel
theorem w_tables : (allAtoms (Jvm.Cond.code x code maxLocals ret :: tables_1)).before args0 about1 = true := by
  rw [allAtoms_all]
  show words1.all (fun c => c.before args0 about1) = true
  refine all_split ?_ w_codes
  rw [← List.take_append_drop 24 words1, List.all_append, w_t1, ← List.take_append_drop 24 (words1.drop 24), List.all_append, w_t2, w_t3]
  rfl
set_option maxRecDepth 65536 in
theorem w_case : (Jvm.Cond.and given_1 narrow_1).before args0 about1 = true := by decide +kernel
theorem w_applies : (headSpec (Jvm.Cond.code x code maxLocals ret :: tables_1) room_1).applies x e0.platform about1 = true :=
  (Spec.applies_iff w_frames).mpr ⟨w_running, w_runnable, w_alone, w_named, w_hears, w_ripe, w_room, w_tables⟩
theorem atStart : AtStart classFile x code maxLocals ret World_1 tables_1 room_1 Calls_1 rest_1 Pre_1 launch0 p0 e0 about1 theMethod args0 below0 :=
  ⟨lists_1, trivial, launch0.admits_env _ _ _, launch0.least_env, fairChoices_fair.cas, fairChoices_fair.clock, w_frames, w_args, w_heap, w_applies, trivial, trivial, w_case⟩
end start1
theorem witness_1 : WitnessClaimed_1 := ⟨start1.p0, start1.e0, start1.about1, start1.theMethod, start1.args0, start1.below0, start1.atStart⟩
end Jvm.Pilot.@@N@@
