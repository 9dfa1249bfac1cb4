import JvmDerived
import JvmDerived.Pilot.@@N@@Statement
import JvmDerived.Pilot.@@N@@Code
set_option linter.unusedVariables false
set_option linter.unusedSimpArgs false
@@BLOCK:NumsL.lean.txt@@
namespace Jvm.OwnKit
open Jvm Sem ClassFile Op Lib Jvm.Free Jvm.Stand Jvm.LawKit Jvm.RoadKit Bundle
/-- a body: its method, its bytes, max_locals, what it returns, its room -/
abbrev oBd : Type := MethodName × ByteArray × Nat × Option FieldType × Room
abbrev oBd.y (b : oBd) : MethodName := b.1
abbrev oBd.bytes (b : oBd) : ByteArray := b.2.1
abbrev oBd.maxL (b : oBd) : Nat := b.2.2.1
abbrev oBd.ret (b : oBd) : Option FieldType := b.2.2.2.1
abbrev oBd.R (b : oBd) : Room := b.2.2.2.2
/-- an invocation: program, environment, its state, method, arguments, the frames below, the method's record, its code -/
abbrev oWd : Type := Program × Env × State × MethodId × Array Value × List Frame × Method × Code
/-- where a walk stands: T its state, h its heap, k cells and n slots made; all that was written lies at or above n0 -/
def oPos (l : Launch) (Z : State) (n0 : Nat) (w : oWd) (b : oBd) (T : State) (h : Heap) (k n : Nat) : Prop :=
  w.1.tables.exec = Jvm.exec ∧ Z.Warmed39 w.2.2.1.vm ∧ w.2.2.1.vm.findClass b.y.cls = some w.2.2.2.1.cls ∧ w.2.2.2.2.2.2.2.code = b.bytes ∧ w.2.2.2.2.2.2.2.maxLocals = b.maxL ∧ w.2.2.2.2.2.2.1.sig.returnType = b.ret ∧ w.2.2.2.2.2.2.1.locks = false ∧ w.2.2.2.2.2.2.1.name = b.y.name ∧ T.heap = h ∧
    ∃ locs, Stand w.1 l w.2.1 b.R w.2.2.1 w.2.2.2.1 w.2.2.2.2.1 w.2.2.2.2.2.1 w.2.2.2.2.2.2.1 w.2.2.2.2.2.2.2 T locs k n ∧ Fr n0 locs
/-- from here the invocation comes to its end, and Q holds of what it returns and of the heap -/
def oFin (w : oWd) (b : oBd) (n0 : Nat) (Q : Option Value → Heap → Prop) (T : State) (pc : Nat) (Ls : Array Slot) (st : List Value) : Prop :=
  ∃ s₂ o, Steps w.1.tables w.2.1 w.2.2.2.2.2.1 (T.setTop (mkF w.2.2.2.1 pc Ls st)) s₂ ∧ s₂.status = .running ∧ Ended s₂ w.2.2.2.2.2.1 o ∧ ∃ v L, o = .returned v ∧ (Q v s₂.heap ∧ Fr n0 L) ∧ FrameEnd w.2.2.1 o s₂ L b.R.cells b.R.slots
/-- a body's contract: called with the arguments as' at the heap h it returns, and Q holds -/
def oMet (l : Launch) (b : oBd) (ws : List Jvm.Cond) (Z : State) (n0 : Nat) (as' : Array Value) (h : Heap) (Q : Option Value → Heap → Prop) : Prop :=
  MetFree l b.y (head1 (Jvm.Cond.code b.y b.bytes b.maxL b.ret :: ws) b.R) (fun a U => a = as' ∧ Z.Warmed39 U.vm ∧ U.heap = h) (fun _ _ _ _ _ => True) (fun _ U o U' => ∃ v L, o = .returned v ∧ (Q v U'.heap ∧ Fr n0 L) ∧ FrameEnd U o U' L b.R.cells b.R.slots)
section Steps
variable {l : Launch} {Z : State} {n0 : Nat} {w : oWd} {b : oBd} {T T' : State} {h : Heap} {k n pc q : Nat} {Ls Ls' : Array Slot} {st st' : List Value} {Q : Option Value → Heap → Prop} {a0 : Array Value}
theorem o_go {pc' : Nat} (hh : ∀ t, Steps w.1.tables w.2.1 w.2.2.2.2.2.1 (T'.setTop (mkF w.2.2.2.1 pc' Ls' st')) t → Steps w.1.tables w.2.1 w.2.2.2.2.2.1 (T.setTop (mkF w.2.2.2.1 pc Ls st)) t) (K : oFin w b n0 Q T' pc' Ls' st') : oFin w b n0 Q T pc Ls st := by
  obtain ⟨s₂, o, h1, r⟩ := K
  exact ⟨s₂, o, hh _ h1, r⟩
theorem o_enter {ws : List Jvm.Cond} {as' : Array Value} (hp : plainFor b.y = true) (hef : ∀ m : MethodId, entryFrame m as' b.maxL = mkF m 0 Ls []) (body : ∀ (w : oWd) (T : State), oPos l Z n0 w b T h 0 0 → oFin w b n0 Q T 0 Ls []) : oMet l b ws Z n0 as' h Q := by
  refine MetFree.of_bodySF hp hisR ?_
  intro p e s m args below meth c s₁ Bd hml0 hP hK
  obtain ⟨rfl, hZ, hh⟩ := hP
  have e0 : s₁.heap = h := by rw [← hh, Bd.state]; rfl
  obtain ⟨s₂, o, h1, r⟩ := body (p, e, s, m, args, below, meth, c) s₁ ⟨Bd.exec, hZ, findClass_of_methodNamed Bd.named, Bd.bytes, hml0, Bd.returns, Bd.notSynchronized, (name_of_methodNamed Bd.named Bd.method).1, e0, [], Stand.of_body Bd, Fr.nil n0⟩
  exact ⟨s₂, o, castTop (hef m) h1, r⟩

theorem o_aloadN (A : oPos l Z n0 w b T h k n) {j : Fin 4} {v : Value} (hd : decode b.bytes pc = .ok (.aload_n j, 1)) (hl : Ls[j.val]? = some (.val v)) (hv : v.isRef = true) (hq : pc + 1 = q) (K : oFin w b n0 Q T q Ls (v :: st)) : oFin w b n0 Q T pc Ls (st) := by
  subst hq
  obtain ⟨hx, hZ, hown, hby, hml, hret, hlk, hnm, eT, locs, X, N⟩ := A
  exact o_go (fun t kk => XS.aloadN X.here hx rfl (hb hby hd) hl hv kk) K
theorem o_aload (A : oPos l Z n0 w b T h k n) {j : Nat} {v : Value} (hd : decode b.bytes pc = .ok (.aload j, 2)) (hl : Ls[j]? = some (.val v)) (hv : v.isRef = true) (hq : pc + 2 = q) (K : oFin w b n0 Q T q Ls (v :: st)) : oFin w b n0 Q T pc Ls (st) := by
  subst hq
  obtain ⟨hx, hZ, hown, hby, hml, hret, hlk, hnm, eT, locs, X, N⟩ := A
  exact o_go (fun t kk => XS.aload X.here hx rfl (hb hby hd) hl hv kk) K
theorem o_iloadN (A : oPos l Z n0 w b T h k n) {j : Fin 4} {v : Int32} (hd : decode b.bytes pc = .ok (.iload_n j, 1)) (hl : Ls[j.val]? = some (.val (.int v))) (hq : pc + 1 = q) (K : oFin w b n0 Q T q Ls (.int v :: st)) : oFin w b n0 Q T pc Ls (st) := by
  subst hq
  obtain ⟨hx, hZ, hown, hby, hml, hret, hlk, hnm, eT, locs, X, N⟩ := A
  exact o_go (fun t kk => XS.iloadN X.here hx rfl (hb hby hd) hl kk) K
theorem o_iload (A : oPos l Z n0 w b T h k n) {j : Nat} {v : Int32} (hd : decode b.bytes pc = .ok (.iload j, 2)) (hl : Ls[j]? = some (.val (.int v))) (hq : pc + 2 = q) (K : oFin w b n0 Q T q Ls (.int v :: st)) : oFin w b n0 Q T pc Ls (st) := by
  subst hq
  obtain ⟨hx, hZ, hown, hby, hml, hret, hlk, hnm, eT, locs, X, N⟩ := A
  exact o_go (fun t kk => XS.iload X.here hx rfl (hb hby hd) hl kk) K
theorem o_lloadN (A : oPos l Z n0 w b T h k n) {j : Fin 4} {v : Int64} (hd : decode b.bytes pc = .ok (.lload_n j, 1)) (hl : Ls[j.val]? = some (.val (.long v))) (hq : pc + 1 = q) (K : oFin w b n0 Q T q Ls (.long v :: st)) : oFin w b n0 Q T pc Ls (st) := by
  subst hq
  obtain ⟨hx, hZ, hown, hby, hml, hret, hlk, hnm, eT, locs, X, N⟩ := A
  exact o_go (fun t kk => XS.lloadN X.here hx rfl (hb hby hd) hl kk) K
theorem o_lload (A : oPos l Z n0 w b T h k n) {j : Nat} {v : Int64} (hd : decode b.bytes pc = .ok (.lload j, 2)) (hl : Ls[j]? = some (.val (.long v))) (hq : pc + 2 = q) (K : oFin w b n0 Q T q Ls (.long v :: st)) : oFin w b n0 Q T pc Ls (st) := by
  subst hq
  obtain ⟨hx, hZ, hown, hby, hml, hret, hlk, hnm, eT, locs, X, N⟩ := A
  exact o_go (fun t kk => XS.lload X.here hx rfl (hb hby hd) hl kk) K
theorem o_iconst (A : oPos l Z n0 w b T h k n) {i : Int} {z : Int32} (hd : decode b.bytes pc = .ok (.iconst i, 1)) (hz : Int32.ofInt i = z) (hq : pc + 1 = q) (K : oFin w b n0 Q T q Ls (.int z :: st)) : oFin w b n0 Q T pc Ls (st) := by
  subst hq hz
  obtain ⟨hx, hZ, hown, hby, hml, hret, hlk, hnm, eT, locs, X, N⟩ := A
  exact o_go (fun t kk => XS.iconst X.here hx rfl (hb hby hd) kk) K
theorem o_bipush (A : oPos l Z n0 w b T h k n) {i : Int} {z : Int32} (hd : decode b.bytes pc = .ok (.bipush i, 2)) (hz : (Int8.ofInt i).toInt32 = z) (hq : pc + 2 = q) (K : oFin w b n0 Q T q Ls (.int z :: st)) : oFin w b n0 Q T pc Ls (st) := by
  subst hq hz
  obtain ⟨hx, hZ, hown, hby, hml, hret, hlk, hnm, eT, locs, X, N⟩ := A
  exact o_go (fun t kk => XS.bipush X.here hx rfl (hb hby hd) kk) K
theorem o_sipush (A : oPos l Z n0 w b T h k n) {i : Int} {z : Int32} (hd : decode b.bytes pc = .ok (.sipush i, 3)) (hz : (Int16.ofInt i).toInt32 = z) (hq : pc + 3 = q) (K : oFin w b n0 Q T q Ls (.int z :: st)) : oFin w b n0 Q T pc Ls (st) := by
  subst hq hz
  obtain ⟨hx, hZ, hown, hby, hml, hret, hlk, hnm, eT, locs, X, N⟩ := A
  exact o_go (fun t kk => XS.sipush X.here hx rfl (hb hby hd) kk) K
theorem o_lconst (A : oPos l Z n0 w b T h k n) {j : Fin 2} {z : Int64} (hd : decode b.bytes pc = .ok (.lconst j, 1)) (hz : Int64.ofNat j = z) (hq : pc + 1 = q) (K : oFin w b n0 Q T q Ls (.long z :: st)) : oFin w b n0 Q T pc Ls (st) := by
  subst hq hz
  obtain ⟨hx, hZ, hown, hby, hml, hret, hlk, hnm, eT, locs, X, N⟩ := A
  exact o_go (fun t kk => XS.lconst X.here hx rfl (hb hby hd) kk) K
theorem o_aconstNull (A : oPos l Z n0 w b T h k n)  (hd : decode b.bytes pc = .ok (.aconst_null, 1))  (hq : pc + 1 = q) (K : oFin w b n0 Q T q Ls (.null :: st)) : oFin w b n0 Q T pc Ls (st) := by
  subst hq
  obtain ⟨hx, hZ, hown, hby, hml, hret, hlk, hnm, eT, locs, X, N⟩ := A
  exact o_go (fun t kk => XS.aconstNull X.here hx rfl (hb hby hd) kk) K
theorem o_iadd (A : oPos l Z n0 w b T h k n) {x y : Int32} (hd : decode b.bytes pc = .ok (.iadd, 1))  (hq : pc + 1 = q) (K : oFin w b n0 Q T q Ls (.int (x + y) :: st)) : oFin w b n0 Q T pc Ls (.int y :: .int x :: st) := by
  subst hq
  obtain ⟨hx, hZ, hown, hby, hml, hret, hlk, hnm, eT, locs, X, N⟩ := A
  exact o_go (fun t kk => XS.iadd X.here hx rfl (hb hby hd) rfl kk) K
theorem o_isub (A : oPos l Z n0 w b T h k n) {x y : Int32} (hd : decode b.bytes pc = .ok (.isub, 1))  (hq : pc + 1 = q) (K : oFin w b n0 Q T q Ls (.int (x - y) :: st)) : oFin w b n0 Q T pc Ls (.int y :: .int x :: st) := by
  subst hq
  obtain ⟨hx, hZ, hown, hby, hml, hret, hlk, hnm, eT, locs, X, N⟩ := A
  exact o_go (fun t kk => XS.isub X.here hx rfl (hb hby hd) rfl kk) K
theorem o_imul (A : oPos l Z n0 w b T h k n) {x y : Int32} (hd : decode b.bytes pc = .ok (.imul, 1))  (hq : pc + 1 = q) (K : oFin w b n0 Q T q Ls (.int (x * y) :: st)) : oFin w b n0 Q T pc Ls (.int y :: .int x :: st) := by
  subst hq
  obtain ⟨hx, hZ, hown, hby, hml, hret, hlk, hnm, eT, locs, X, N⟩ := A
  exact o_go (fun t kk => XS.imul X.here hx rfl (hb hby hd) rfl kk) K
theorem o_iand (A : oPos l Z n0 w b T h k n) {x y : Int32} (hd : decode b.bytes pc = .ok (.iand, 1))  (hq : pc + 1 = q) (K : oFin w b n0 Q T q Ls (.int (x &&& y) :: st)) : oFin w b n0 Q T pc Ls (.int y :: .int x :: st) := by
  subst hq
  obtain ⟨hx, hZ, hown, hby, hml, hret, hlk, hnm, eT, locs, X, N⟩ := A
  exact o_go (fun t kk => XS.iand X.here hx rfl (hb hby hd) rfl kk) K
theorem o_ior (A : oPos l Z n0 w b T h k n) {x y : Int32} (hd : decode b.bytes pc = .ok (.ior, 1))  (hq : pc + 1 = q) (K : oFin w b n0 Q T q Ls (.int (x ||| y) :: st)) : oFin w b n0 Q T pc Ls (.int y :: .int x :: st) := by
  subst hq
  obtain ⟨hx, hZ, hown, hby, hml, hret, hlk, hnm, eT, locs, X, N⟩ := A
  exact o_go (fun t kk => XS.ior X.here hx rfl (hb hby hd) rfl kk) K
theorem o_ishr (A : oPos l Z n0 w b T h k n) {x y : Int32} (hd : decode b.bytes pc = .ok (.ishr, 1))  (hq : pc + 1 = q) (K : oFin w b n0 Q T q Ls (.int (x >>> (y &&& 31)) :: st)) : oFin w b n0 Q T pc Ls (.int y :: .int x :: st) := by
  subst hq
  obtain ⟨hx, hZ, hown, hby, hml, hret, hlk, hnm, eT, locs, X, N⟩ := A
  exact o_go (fun t kk => XS.ishr X.here hx rfl (hb hby hd) rfl kk) K
theorem o_iushr (A : oPos l Z n0 w b T h k n) {x y : Int32} (hd : decode b.bytes pc = .ok (.iushr, 1))  (hq : pc + 1 = q) (K : oFin w b n0 Q T q Ls (.int ((x.toUInt32 >>> (y &&& 31).toUInt32).toInt32) :: st)) : oFin w b n0 Q T pc Ls (.int y :: .int x :: st) := by
  subst hq
  obtain ⟨hx, hZ, hown, hby, hml, hret, hlk, hnm, eT, locs, X, N⟩ := A
  exact o_go (fun t kk => XS.iushr X.here hx rfl (hb hby hd) rfl kk) K
theorem o_idiv (A : oPos l Z n0 w b T h k n) {x y : Int32} (hd : decode b.bytes pc = .ok (.idiv, 1)) (hy : y ≠ 0) (hq : pc + 1 = q) (K : oFin w b n0 Q T q Ls (.int (x / y) :: st)) : oFin w b n0 Q T pc Ls (.int y :: .int x :: st) := by
  subst hq
  obtain ⟨hx, hZ, hown, hby, hml, hret, hlk, hnm, eT, locs, X, N⟩ := A
  exact o_go (fun t kk => XS.idiv X.here hx rfl (hb hby hd) rfl hy kk) K
theorem o_irem (A : oPos l Z n0 w b T h k n) {x y : Int32} (hd : decode b.bytes pc = .ok (.irem, 1)) (hy : y ≠ 0) (hq : pc + 1 = q) (K : oFin w b n0 Q T q Ls (.int (x % y) :: st)) : oFin w b n0 Q T pc Ls (.int y :: .int x :: st) := by
  subst hq
  obtain ⟨hx, hZ, hown, hby, hml, hret, hlk, hnm, eT, locs, X, N⟩ := A
  exact o_go (fun t kk => iremM X hx rfl (hb hby hd) rfl hy kk) K
theorem o_ladd (A : oPos l Z n0 w b T h k n) {x y : Int64} (hd : decode b.bytes pc = .ok (.ladd, 1))  (hq : pc + 1 = q) (K : oFin w b n0 Q T q Ls (.long (x + y) :: st)) : oFin w b n0 Q T pc Ls (.long y :: .long x :: st) := by
  subst hq
  obtain ⟨hx, hZ, hown, hby, hml, hret, hlk, hnm, eT, locs, X, N⟩ := A
  exact o_go (fun t kk => XS.ladd X.here hx rfl (hb hby hd) rfl kk) K
theorem o_lsub (A : oPos l Z n0 w b T h k n) {x y : Int64} (hd : decode b.bytes pc = .ok (.lsub, 1))  (hq : pc + 1 = q) (K : oFin w b n0 Q T q Ls (.long (x - y) :: st)) : oFin w b n0 Q T pc Ls (.long y :: .long x :: st) := by
  subst hq
  obtain ⟨hx, hZ, hown, hby, hml, hret, hlk, hnm, eT, locs, X, N⟩ := A
  exact o_go (fun t kk => XS.lsub X.here hx rfl (hb hby hd) rfl kk) K
theorem o_lmul (A : oPos l Z n0 w b T h k n) {x y : Int64} (hd : decode b.bytes pc = .ok (.lmul, 1))  (hq : pc + 1 = q) (K : oFin w b n0 Q T q Ls (.long (x * y) :: st)) : oFin w b n0 Q T pc Ls (.long y :: .long x :: st) := by
  subst hq
  obtain ⟨hx, hZ, hown, hby, hml, hret, hlk, hnm, eT, locs, X, N⟩ := A
  exact o_go (fun t kk => XS.lmul X.here hx rfl (hb hby hd) rfl kk) K
theorem o_land (A : oPos l Z n0 w b T h k n) {x y : Int64} (hd : decode b.bytes pc = .ok (.land, 1))  (hq : pc + 1 = q) (K : oFin w b n0 Q T q Ls (.long (x &&& y) :: st)) : oFin w b n0 Q T pc Ls (.long y :: .long x :: st) := by
  subst hq
  obtain ⟨hx, hZ, hown, hby, hml, hret, hlk, hnm, eT, locs, X, N⟩ := A
  exact o_go (fun t kk => XS.land X.here hx rfl (hb hby hd) rfl kk) K
theorem o_lrem (A : oPos l Z n0 w b T h k n) {x y : Int64} (hd : decode b.bytes pc = .ok (.lrem, 1)) (hy : y ≠ 0) (hq : pc + 1 = q) (K : oFin w b n0 Q T q Ls (.long (x - (x / y) * y) :: st)) : oFin w b n0 Q T pc Ls (.long y :: .long x :: st) := by
  subst hq
  obtain ⟨hx, hZ, hown, hby, hml, hret, hlk, hnm, eT, locs, X, N⟩ := A
  exact o_go (fun t kk => XS.lrem X.here hx rfl (hb hby hd) rfl hy kk) K
theorem o_lushr (A : oPos l Z n0 w b T h k n) {x : Int64} {y : Int32} (hd : decode b.bytes pc = .ok (.lushr, 1))  (hq : pc + 1 = q) (K : oFin w b n0 Q T q Ls (.long ((x.toUInt64 >>> (y &&& 0x3f).toInt64.toUInt64).toInt64) :: st)) : oFin w b n0 Q T pc Ls (.int y :: .long x :: st) := by
  subst hq
  obtain ⟨hx, hZ, hown, hby, hml, hret, hlk, hnm, eT, locs, X, N⟩ := A
  exact o_go (fun t kk => XS.lushr X.here hx rfl (hb hby hd) rfl kk) K
theorem o_i2l (A : oPos l Z n0 w b T h k n) {x : Int32} (hd : decode b.bytes pc = .ok (.i2l, 1))  (hq : pc + 1 = q) (K : oFin w b n0 Q T q Ls (.long (x.toInt64) :: st)) : oFin w b n0 Q T pc Ls (.int x :: st) := by
  subst hq
  obtain ⟨hx, hZ, hown, hby, hml, hret, hlk, hnm, eT, locs, X, N⟩ := A
  exact o_go (fun t kk => XS.i2l X.here hx rfl (hb hby hd) rfl kk) K
theorem o_i2b (A : oPos l Z n0 w b T h k n) {x : Int32} (hd : decode b.bytes pc = .ok (.i2b, 1))  (hq : pc + 1 = q) (K : oFin w b n0 Q T q Ls (.int (x.toInt8.toInt32) :: st)) : oFin w b n0 Q T pc Ls (.int x :: st) := by
  subst hq
  obtain ⟨hx, hZ, hown, hby, hml, hret, hlk, hnm, eT, locs, X, N⟩ := A
  exact o_go (fun t kk => XS.i2b X.here hx rfl (hb hby hd) rfl kk) K
theorem o_i2c (A : oPos l Z n0 w b T h k n) {x : Int32} (hd : decode b.bytes pc = .ok (.i2c, 1))  (hq : pc + 1 = q) (K : oFin w b n0 Q T q Ls (.int (x.toUInt32.toUInt16.toUInt32.toInt32) :: st)) : oFin w b n0 Q T pc Ls (.int x :: st) := by
  subst hq
  obtain ⟨hx, hZ, hown, hby, hml, hret, hlk, hnm, eT, locs, X, N⟩ := A
  exact o_go (fun t kk => XS.i2c X.here hx rfl (hb hby hd) rfl kk) K
theorem o_lcmp (A : oPos l Z n0 w b T h k n) {x y : Int64} (hd : decode b.bytes pc = .ok (.lcmp, 1))  (hq : pc + 1 = q) (K : oFin w b n0 Q T q Ls (.int (lcmpW x y) :: st)) : oFin w b n0 Q T pc Ls (.long y :: .long x :: st) := by
  subst hq
  obtain ⟨hx, hZ, hown, hby, hml, hret, hlk, hnm, eT, locs, X, N⟩ := A
  exact o_go (fun t kk => XS.lcmp X.here hx rfl (hb hby hd) rfl kk) K
theorem o_dup (A : oPos l Z n0 w b T h k n) {x : Value} (hd : decode b.bytes pc = .ok (.dup, 1)) (hc : x.category = 1) (hq : pc + 1 = q) (K : oFin w b n0 Q T q Ls (x :: x :: st)) : oFin w b n0 Q T pc Ls (x :: st) := by
  subst hq
  obtain ⟨hx, hZ, hown, hby, hml, hret, hlk, hnm, eT, locs, X, N⟩ := A
  exact o_go (fun t kk => XS.dup X.here hx rfl (hb hby hd) rfl hc kk) K
theorem o_dupX1 (A : oPos l Z n0 w b T h k n) {x y : Value} (hd : decode b.bytes pc = .ok (.dup_x1, 1)) (hc : x.category = 1) (hc2 : y.category = 1) (hq : pc + 1 = q) (K : oFin w b n0 Q T q Ls (x :: y :: x :: st)) : oFin w b n0 Q T pc Ls (x :: y :: st) := by
  subst hq
  obtain ⟨hx, hZ, hown, hby, hml, hret, hlk, hnm, eT, locs, X, N⟩ := A
  exact o_go (fun t kk => Jvm.Free.XT.dupX1 X.here hx rfl (hb hby hd) rfl hc hc2 kk) K
theorem o_dup2 (A : oPos l Z n0 w b T h k n) {x y : Value} (hd : decode b.bytes pc = .ok (.dup2, 1)) (hc : x.category = 1) (hc2 : y.category = 1) (hq : pc + 1 = q) (K : oFin w b n0 Q T q Ls (x :: y :: x :: y :: st)) : oFin w b n0 Q T pc Ls (x :: y :: st) := by
  subst hq
  obtain ⟨hx, hZ, hown, hby, hml, hret, hlk, hnm, eT, locs, X, N⟩ := A
  exact o_go (fun t kk => Jvm.Free.XT.dup2 X.here hx rfl (hb hby hd) rfl hc hc2 kk) K
theorem o_pop (A : oPos l Z n0 w b T h k n) {x : Value} (hd : decode b.bytes pc = .ok (.pop, 1)) (hc : x.category = 1) (hq : pc + 1 = q) (K : oFin w b n0 Q T q Ls (st)) : oFin w b n0 Q T pc Ls (x :: st) := by
  subst hq
  obtain ⟨hx, hZ, hown, hby, hml, hret, hlk, hnm, eT, locs, X, N⟩ := A
  exact o_go (fun t kk => XS.pop X.here hx rfl (hb hby hd) rfl hc kk) K
theorem o_istoreN (A : oPos l Z n0 w b T h k n) {j : Fin 4} {x : Int32} (hd : decode b.bytes pc = .ok (.istore_n j, 1)) (hl : storeLocals Ls j.val (.int x) = some Ls') (hq : pc + 1 = q) (K : oFin w b n0 Q T q Ls' (st)) : oFin w b n0 Q T pc Ls (.int x :: st) := by
  subst hq
  obtain ⟨hx, hZ, hown, hby, hml, hret, hlk, hnm, eT, locs, X, N⟩ := A
  exact o_go (fun t kk => XS.istoreN X.here hx rfl (hb hby hd) rfl hl kk) K
theorem o_istore (A : oPos l Z n0 w b T h k n) {j : Nat} {x : Int32} (hd : decode b.bytes pc = .ok (.istore j, 2)) (hl : storeLocals Ls j (.int x) = some Ls') (hq : pc + 2 = q) (K : oFin w b n0 Q T q Ls' (st)) : oFin w b n0 Q T pc Ls (.int x :: st) := by
  subst hq
  obtain ⟨hx, hZ, hown, hby, hml, hret, hlk, hnm, eT, locs, X, N⟩ := A
  exact o_go (fun t kk => XS.istore X.here hx rfl (hb hby hd) rfl hl kk) K
theorem o_lstoreN (A : oPos l Z n0 w b T h k n) {j : Fin 4} {x : Int64} (hd : decode b.bytes pc = .ok (.lstore_n j, 1)) (hl : storeLocals Ls j.val (.long x) = some Ls') (hq : pc + 1 = q) (K : oFin w b n0 Q T q Ls' (st)) : oFin w b n0 Q T pc Ls (.long x :: st) := by
  subst hq
  obtain ⟨hx, hZ, hown, hby, hml, hret, hlk, hnm, eT, locs, X, N⟩ := A
  exact o_go (fun t kk => XS.lstoreN X.here hx rfl (hb hby hd) rfl hl kk) K
theorem o_lstore (A : oPos l Z n0 w b T h k n) {j : Nat} {x : Int64} (hd : decode b.bytes pc = .ok (.lstore j, 2)) (hl : storeLocals Ls j (.long x) = some Ls') (hq : pc + 2 = q) (K : oFin w b n0 Q T q Ls' (st)) : oFin w b n0 Q T pc Ls (.long x :: st) := by
  subst hq
  obtain ⟨hx, hZ, hown, hby, hml, hret, hlk, hnm, eT, locs, X, N⟩ := A
  exact o_go (fun t kk => XS.lstore X.here hx rfl (hb hby hd) rfl hl kk) K
theorem o_astoreN (A : oPos l Z n0 w b T h k n) {j : Fin 4} {x : Value} (hd : decode b.bytes pc = .ok (.astore_n j, 1)) (hv : x.isRef = true) (hl : storeLocals Ls j.val x = some Ls') (hq : pc + 1 = q) (K : oFin w b n0 Q T q Ls' (st)) : oFin w b n0 Q T pc Ls (x :: st) := by
  subst hq
  obtain ⟨hx, hZ, hown, hby, hml, hret, hlk, hnm, eT, locs, X, N⟩ := A
  exact o_go (fun t kk => XS.astoreN X.here hx rfl (hb hby hd) rfl hv hl kk) K
theorem o_astore (A : oPos l Z n0 w b T h k n) {j : Nat} {x : Value} (hd : decode b.bytes pc = .ok (.astore j, 2)) (hv : x.isRef = true) (hl : storeLocals Ls j x = some Ls') (hq : pc + 2 = q) (K : oFin w b n0 Q T q Ls' (st)) : oFin w b n0 Q T pc Ls (x :: st) := by
  subst hq
  obtain ⟨hx, hZ, hown, hby, hml, hret, hlk, hnm, eT, locs, X, N⟩ := A
  exact o_go (fun t kk => XS.astore X.here hx rfl (hb hby hd) rfl hv hl kk) K
theorem o_iinc (A : oPos l Z n0 w b T h k n) {j : Nat} {cst : Int} {x z : Int32} (hd : decode b.bytes pc = .ok (.iinc j cst, 3)) (hl : Ls[j]? = some (.val (.int x))) (hz : x + Int32.ofInt cst = z) (hl' : storeLocals Ls j (.int z) = some Ls') (hq : pc + 3 = q) (K : oFin w b n0 Q T q Ls' (st)) : oFin w b n0 Q T pc Ls (st) := by
  subst hq hz
  obtain ⟨hx, hZ, hown, hby, hml, hret, hlk, hnm, eT, locs, X, N⟩ := A
  exact o_go (fun t kk => XS.iinc X.here hx rfl (hb hby hd) hl hl' kk) K
theorem o_ldc (A : oPos l Z n0 w b T h k n) {index : Nat} {v : Int32} (hd : decode b.bytes pc = .ok (.ldc index, 2)) (wd : (Jvm.Cond.constant b.y.cls index v).before a0 Z = true) (hq : pc + 2 = q) (K : oFin w b n0 Q T q Ls (.int v :: st)) : oFin w b n0 Q T pc Ls (st) := by
  subst hq
  obtain ⟨hx, hZ, hown, hby, hml, hret, hlk, hnm, eT, locs, X, N⟩ := A
  exact o_go (fun t kk => X.ldcInt hx hown (mvT hZ wd) (g := mkF w.2.2.2.1 pc Ls st) rfl (hb hby hd) t kk) K
theorem o_ldc2 (A : oPos l Z n0 w b T h k n) {index : Nat} {v : Int64} (hd : decode b.bytes pc = .ok (.ldc2_w index, 3)) (wd : (Jvm.Cond.constantLong b.y.cls index v).before a0 Z = true) (hq : pc + 3 = q) (K : oFin w b n0 Q T q Ls (.long v :: st)) : oFin w b n0 Q T pc Ls (st) := by
  subst hq
  obtain ⟨hx, hZ, hown, hby, hml, hret, hlk, hnm, eT, locs, X, N⟩ := A
  exact o_go (fun t kk => X.ldc2Long hx hown (mvT hZ wd) (g := mkF w.2.2.2.1 pc Ls st) rfl (hb hby hd) t kk) K
theorem o_goto (A : oPos l Z n0 w b T h k n) {o : Int} (hd : decode b.bytes pc = .ok (.goto o, 3)) (ho : 0 ≤ (pc : Int) + o) (hq : ((pc : Int) + o).toNat = q) (K : oFin w b n0 Q T q Ls st) : oFin w b n0 Q T pc Ls st := by
  obtain ⟨hx, hZ, hown, hby, hml, hret, hlk, hnm, eT, locs, X, N⟩ := A
  exact o_go (fun t kk => XS.goto X.here hx rfl rfl (hb hby hd) ho hq kk) K
/-- what a comparison says -/
def oCnd : ClassFile.Cond → Int32 → Int32 → Prop
  | .eq, x, y => x = y
  | .ne, x, y => x ≠ y
  | .lt, x, y => x < y
  | .ge, x, y => y ≤ x
  | .gt, x, y => y < x
  | .le, x, y => x ≤ y
theorem o_cnd (cd : ClassFile.Cond) (x y : Int32) : if_icmp.holds cd x y = true ↔ oCnd cd x y := by
  cases cd <;> simp [if_icmp.holds, oCnd]
theorem o_icmp (A : oPos l Z n0 w b T h k n) {cd : ClassFile.Cond} {x y : Int32} {o : Int} {q' : Nat} (hd : decode b.bytes pc = .ok (.if_icmp cd o, 3)) (ho : 0 ≤ (pc : Int) + o) (hq : ((pc : Int) + o).toNat = q) (hq' : pc + 3 = q') (Y : oCnd cd x y → oFin w b n0 Q T q Ls st) (N' : ¬ oCnd cd x y → oFin w b n0 Q T q' Ls st) : oFin w b n0 Q T pc Ls (.int y :: .int x :: st) := by
  subst hq'
  obtain ⟨hx, hZ, hown, hby, hml, hret, hlk, hnm, eT, locs, X, N⟩ := A
  by_cases hc : oCnd cd x y
  · exact o_go (fun t kk => XS.icmpYes X.here hx rfl rfl (hb hby hd) rfl ((o_cnd _ _ _).mpr hc) ho hq kk) (Y hc)
  · exact o_go (fun t kk => XS.icmpNo X.here hx rfl (hb hby hd) rfl (by rw [← Bool.not_eq_true, o_cnd]; exact hc) kk) (N' hc)
theorem o_if (A : oPos l Z n0 w b T h k n) {cd : ClassFile.Cond} {x : Int32} {o : Int} {q' : Nat} (hd : decode b.bytes pc = .ok (.ifCond cd o, 3)) (ho : 0 ≤ (pc : Int) + o) (hq : ((pc : Int) + o).toNat = q) (hq' : pc + 3 = q') (Y : oCnd cd x 0 → oFin w b n0 Q T q Ls st) (N' : ¬ oCnd cd x 0 → oFin w b n0 Q T q' Ls st) : oFin w b n0 Q T pc Ls (.int x :: st) := by
  subst hq'
  obtain ⟨hx, hZ, hown, hby, hml, hret, hlk, hnm, eT, locs, X, N⟩ := A
  by_cases hc : oCnd cd x 0
  · exact o_go (fun t kk => XS.ifYes X.here hx rfl rfl (hb hby hd) rfl ((if0 _ _).trans ((o_cnd _ _ _).mpr hc)) ho hq kk) (Y hc)
  · exact o_go (fun t kk => XS.ifNo X.here hx rfl (hb hby hd) rfl ((if0 _ _).trans (by rw [← Bool.not_eq_true, o_cnd]; exact hc)) kk) (N' hc)
theorem o_ifnonnullR (A : oPos l Z n0 w b T h k n) {a : Addr} {o : Int} (hd : decode b.bytes pc = .ok (.ifnonnull o, 3)) (ho : 0 ≤ (pc : Int) + o) (hq : ((pc : Int) + o).toNat = q) (K : oFin w b n0 Q T q Ls st) : oFin w b n0 Q T pc Ls (.ref a :: st) := by
  obtain ⟨hx, hZ, hown, hby, hml, hret, hlk, hnm, eT, locs, X, N⟩ := A
  exact o_go (fun t kk => XS.ifnonnullYes X.here hx rfl rfl (hb hby hd) rfl ho hq kk) K
theorem o_ifnonnullN (A : oPos l Z n0 w b T h k n) {o : Int} (hd : decode b.bytes pc = .ok (.ifnonnull o, 3)) (hq : pc + 3 = q) (K : oFin w b n0 Q T q Ls st) : oFin w b n0 Q T pc Ls (.null :: st) := by
  subst hq
  obtain ⟨hx, hZ, hown, hby, hml, hret, hlk, hnm, eT, locs, X, N⟩ := A
  exact o_go (fun t kk => XS.ifnonnullNo X.here hx rfl (hb hby hd) rfl kk) K
/-- if_acmpne of two references that differ: taken -/
theorem o_acmpneY (A : oPos l Z n0 w b T h k n) {a c : Addr} {o : Int} (hd : decode b.bytes pc = .ok (.if_acmp .ne o, 3)) (hne : a ≠ c) (ho : 0 ≤ (pc : Int) + o) (hq : ((pc : Int) + o).toNat = q) (K : oFin w b n0 Q T q Ls st) : oFin w b n0 Q T pc Ls (.ref c :: .ref a :: st) := by
  obtain ⟨hx, hZ, hown, hby, hml, hret, hlk, hnm, eT, locs, X, N⟩ := A
  exact o_go (fun t kk => XS.acmpYes X.here hx rfl rfl (hb hby hd) rfl (by simp [if_acmp.holds, hne]) ho hq kk) K

theorem o_retV (A : oPos l Z n0 w b T h k n)  (hr : b.ret = none)  (hd : decode b.bytes pc = .ok (.return_, 1)) (hk : k ≤ b.R.cells) (hn : n ≤ b.R.slots) (hQ : Q (none) h) : oFin w b n0 Q T pc Ls ([]) := by
  obtain ⟨hx, hZ, hown, hby, hml, hret, hlk, hnm, eT, locs, X, N⟩ := A
  have hret' : w.2.2.2.2.2.2.1.sig.returnType = none := hret.trans hr
  obtain ⟨fs, hr', hrun, hended, hW, hsame⟩ := X.leave (v := none) (fun _ => rfl) hlk
  exact ⟨_, _, X.returnOut hx hret' (hb hby hd) hr', hrun, hended, _, _, rfl, ⟨by rw [← eT] at hQ; exact hQ, N⟩, ⟨_, rfl⟩, hW, hsame.mono hk hn⟩
theorem o_retI (A : oPos l Z n0 w b T h k n) {z : Int32} (hr : b.ret = some .int)  (hd : decode b.bytes pc = .ok (.ireturn, 1)) (hk : k ≤ b.R.cells) (hn : n ≤ b.R.slots) (hQ : Q (some (.int z)) h) : oFin w b n0 Q T pc Ls ([.int z]) := by
  obtain ⟨hx, hZ, hown, hby, hml, hret, hlk, hnm, eT, locs, X, N⟩ := A
  have hret' : w.2.2.2.2.2.2.1.sig.returnType = some .int := hret.trans hr
  obtain ⟨fs, hr', hrun, hended, hW, hsame⟩ := X.leave (v := some (.int z)) (fun hz => by rw [hret'] at hz; cases hz) hlk
  exact ⟨_, _, X.ireturnOut hx hret' rfl (Or.inl rfl) (hb hby hd) hr', hrun, hended, _, _, rfl, ⟨by rw [← eT] at hQ; exact hQ, N⟩, ⟨_, rfl⟩, hW, hsame.mono hk hn⟩
theorem o_retJ (A : oPos l Z n0 w b T h k n) {z : Int64} (hr : b.ret = some .long)  (hd : decode b.bytes pc = .ok (.lreturn, 1)) (hk : k ≤ b.R.cells) (hn : n ≤ b.R.slots) (hQ : Q (some (.long z)) h) : oFin w b n0 Q T pc Ls ([.long z]) := by
  obtain ⟨hx, hZ, hown, hby, hml, hret, hlk, hnm, eT, locs, X, N⟩ := A
  have hret' : w.2.2.2.2.2.2.1.sig.returnType = some .long := hret.trans hr
  obtain ⟨fs, hr', hrun, hended, hW, hsame⟩ := X.leave (v := some (.long z)) (fun hz => by rw [hret'] at hz; cases hz) hlk
  exact ⟨_, _, X.lreturnOut hx hret' (hb hby hd) hr', hrun, hended, _, _, rfl, ⟨by rw [← eT] at hQ; exact hQ, N⟩, ⟨_, rfl⟩, hW, hsame.mono hk hn⟩
theorem o_retA (A : oPos l Z n0 w b T h k n) {z : Value} {t : FieldType} (hr : b.ret = some t) (ht : t.isReference = true) (hz : z.isRef = true) (hd : decode b.bytes pc = .ok (.areturn, 1)) (hk : k ≤ b.R.cells) (hn : n ≤ b.R.slots) (hQ : Q (some z) h) : oFin w b n0 Q T pc Ls ([z]) := by
  obtain ⟨hx, hZ, hown, hby, hml, hret, hlk, hnm, eT, locs, X, N⟩ := A
  have hret' : w.2.2.2.2.2.2.1.sig.returnType = some t := hret.trans hr
  obtain ⟨fs, hr', hrun, hended, hW, hsame⟩ := X.leave (v := some z) (fun hz => by rw [hret'] at hz; cases hz) hlk
  exact ⟨_, _, X.areturnOut hx hz hret' ht (hb hby hd) hr', hrun, hended, _, _, rfl, ⟨by rw [← eT] at hQ; exact hQ, N⟩, ⟨_, rfl⟩, hW, hsame.mono hk hn⟩
theorem o_retN (A : oPos l Z n0 w b T h k n) {z : Int32} {t : FieldType} (hr : b.ret = some t) (ht : t = .boolean ∨ t = .byte ∨ t = .char ∨ t = .short) (hd : decode b.bytes pc = .ok (.ireturn, 1)) (hk : k ≤ b.R.cells) (hn : n ≤ b.R.slots) (hQ : Q (some (.int (nar t z))) h) : oFin w b n0 Q T pc Ls ([.int z]) := by
  obtain ⟨hx, hZ, hown, hby, hml, hret, hlk, hnm, eT, locs, X, N⟩ := A
  have hret' : w.2.2.2.2.2.2.1.sig.returnType = some t := hret.trans hr
  obtain ⟨fs, hr', hrun, hended, hW, hsame⟩ := X.leave (v := some (.int (nar t z))) (fun hz => by rw [hret'] at hz; cases hz) hlk
  exact ⟨_, _, retN X hx hret' ht (hb hby hd) hr', hrun, hended, _, _, rfl, ⟨by rw [← eT] at hQ; exact hQ, N⟩, ⟨_, rfl⟩, hW, hsame.mono hk hn⟩
theorem o_getF (A : oPos l Z n0 w b T h k n) {O nm d : String} {index : Nat} {a : Addr} {v : Value} (hd : decode b.bytes pc = .ok (.getfield index, 3)) (wd : (Jvm.Cond.fieldLink b.y.cls index O nm d).before a0 Z = true) (F : Fld Z h a O nm d v) (hq : pc + 3 = q) (K : ∀ T', oPos l Z n0 w b T' h k n → oFin w b n0 Q T' q Ls (v :: st)) : oFin w b n0 Q T pc Ls (.ref a :: st) := by
  subst hq
  obtain ⟨hx, hZ, hown, hby, hml, hret, hlk, hnm, eT, locs, X, N⟩ := A
  obtain ⟨T', X', e', st'⟩ := getF X hx hZ hown (host := "") (Or.inl wd) Via.refl eT F (g := mkF w.2.2.2.1 pc Ls (.ref a :: st)) rfl rfl (hb hby hd)
  exact o_go st' (K T' ⟨hx, hZ, hown, hby, hml, hret, hlk, hnm, e', locs, X', N⟩)
theorem o_putF (A : oPos l Z n0 w b T h k n) {O nm d C : String} {index kk : Nat} {a : Addr} {v old : Value} {ty : FieldType} (hd : decode b.bytes pc = .ok (.putfield index, 3)) (wd : (Jvm.Cond.fieldLink b.y.cls index O nm d).before a0 Z = true) (F : Fld Z h a O nm d old) (E : Exa Z h a C) (L : (Jvm.Cond.lays C O nm d).before a0 Z = true ∨ ((Jvm.Cond.laysFinal C O nm d).before a0 Z = true ∧ b.y.cls = O ∧ b.y.name = "<init>"))
    (wi : (Jvm.Cond.instantiable C kk).before a0 Z = true) (hty : parseFieldDescriptor d = some ty) (hna : narrow ty v = v) (hfi : fits ty v = true) (ha : n0 ≤ a) (hq : pc + 3 = q) (K : ∀ T' h', oPos l Z n0 w b T' h' k n → Wr h h' a (RoadKit.slotOf Z O nm d) v → oFin w b n0 Q T' q Ls st) : oFin w b n0 Q T pc Ls (v :: .ref a :: st) := by
  subst hq
  obtain ⟨hx, hZ, hown, hby, hml, hret, hlk, hnm, eT, locs, X, N⟩ := A
  obtain ⟨T', h', X', e', W, st'⟩ := putF X hx hZ hown (host := "") (Or.inl wd) Via.refl eT F E (L.imp id fun q => ⟨q.1, q.2.1, hnm.trans q.2.2⟩) wi hty hna hfi (g := mkF w.2.2.2.1 pc Ls (v :: .ref a :: st)) rfl rfl (hb hby hd)
  exact o_go st' (K T' h' ⟨hx, hZ, hown, hby, hml, hret, hlk, hnm, e', _, X', Fr.snoc X' N ha⟩ W)
theorem o_newO (A : oPos l Z n0 w b T h k n) {C : String} {index m k' n' : Nat} (hd : decode b.bytes pc = .ok (.new index, 3)) (wd : (Jvm.Cond.classLink b.y.cls index C).before a0 Z = true) (wi : (Jvm.Cond.instantiable C m).before a0 Z = true) (wz : (Jvm.Cond.initialized C).before a0 Z = true) (hk : k + 1 = k') (hn : n + m = n') (hk2 : k' ≤ b.R.cells) (hn2 : n' ≤ b.R.slots) (hq : pc + 3 = q)
    (K : ∀ T' h' a, a = h.size → oPos l Z n0 w b T' h' k' n' → Ext h h' → Exa Z h' a C → (∀ {O nm d : String} {ty : FieldType}, Laid Z a0 C O nm d → parseFieldDescriptor d = some ty → Fld Z h' a O nm d (defaultValue ty)) → oFin w b n0 Q T' q Ls (.ref a :: st)) : oFin w b n0 Q T pc Ls st := by
  subst hq hk hn
  obtain ⟨hx, hZ, hown, hby, hml, hret, hlk, hnm, eT, locs, X, N⟩ := A
  obtain ⟨T', h', X', e', E, Ax, Dx, -, st'⟩ := newO X hx hZ hown wd wi wz eT (g := mkF w.2.2.2.1 pc Ls st) rfl (hb hby hd) hk2 hn2
  exact o_go st' (K T' h' _ rfl ⟨hx, hZ, hown, hby, hml, hret, hlk, hnm, e', _, X', N⟩ E Ax Dx)
theorem o_initO (A : oPos l Z n0 w b T h k n) {idx W : Nat} {a : Addr} (hd : decode b.bytes pc = .ok (.invokespecial idx, 3)) (w1 : (Jvm.Cond.methodLink b.y.cls idx Lib.objectInit).before a0 Z = true) (w2 : (Jvm.Cond.instanceMethod Lib.objectInit).before a0 Z = true) (w3 : (Jvm.Cond.code Lib.objectInit Jvm.Lib.objCode 1 none).before a0 Z = true) (hsz : Ls.size = b.maxL) (hf : 1 ≤ b.R.frames) (hW : (st.map fun v => v.category).sum = W) (hl : W + 12 ≤ b.R.locals) (hq : pc + 3 = q)
    (K : ∀ T', oPos l Z n0 w b T' h k n → oFin w b n0 Q T' q Ls st) : oFin w b n0 Q T pc Ls (.ref a :: st) := by
  subst hq
  obtain ⟨hx, hZ, hown, hby, hml, hret, hlk, hnm, eT, locs, X, N⟩ := A
  obtain ⟨T', X', e', st'⟩ := initO X hx hZ hown w1 w2 w3 eT (g := mkF w.2.2.2.1 pc Ls (.ref a :: st)) rfl (hsz.trans hml.symm) rfl (hb hby hd) hf (W := W) (by show 2 * 0 + _ ≤ _; omega) hl
  exact o_go st' (K T' ⟨hx, hZ, hown, hby, hml, hret, hlk, hnm, e', locs, X', N⟩)

theorem o_selP {s : State} {args : Array Value} {n : Nat} {y : MethodName} (hy : y.cls ≠ "java/lang/invoke/MethodHandle" ∧ y.cls ≠ "java/lang/invoke/VarHandle") (hins : (Jvm.Cond.instantiable y.cls n).before args s = true) (hpriv : (Jvm.Cond.privateMethod y).before args s = true) (hinst : (Jvm.Cond.instanceMethod y).before args s = true) : (Jvm.Cond.selects y.cls y y).before args s = true := by
  obtain ⟨c, k, hc, hk, -, hniab, -, -⟩ := Cond.instantiable_spec hins
  have hni : k.isInterface = false := (Bool.or_eq_false_iff.mp hniab).1
  obtain ⟨mk, methM, hnamed, hmethM, -, -⟩ := Cond.instanceMethod_spec hinst
  have hfound : s.methodFound? y.cls y.name y.desc = some mk := State.methodFound?_of_named hnamed hy
  have hcls : mk.cls = c := Option.some.inj ((findClass_of_methodNamed hnamed).symm.trans hc)
  have hsel : selectMethod {} s.vm c mk = .method mk := selectMethod_private hmethM (Cond.privateMethod_at hpriv mk methM hnamed hmethM)
  simp only [Cond.before, Cond.holds, Cond.value, hc, hfound, hnamed, hsel, hcls, hk]
  simp; exact hni
theorem o_callS (A : oPos l Z n0 w b T h k n) {b' : oBd} {as' : Array Value} {Q' : Option Value → Heap → Prop} {index W k' n' : Nat} {argsL : List Value} {sig : MethodDescriptor} (hM : oMet l b' [] Z n0 as' h Q') (hd : decode b.bytes pc = .ok (.invokestatic index, 3)) (w1 : (Jvm.Cond.methodLink b.y.cls index b'.y).before a0 Z = true) (w2 : (Jvm.Cond.static b'.y).before a0 Z = true) (w3 : (Jvm.Cond.initialized b'.y.cls).before a0 Z = true) (w4 : (Jvm.Cond.code b'.y b'.bytes b'.maxL b'.ret).before a0 Z = true)
    (hy : b'.y.cls ≠ "java/lang/invoke/MethodHandle" ∧ b'.y.cls ≠ "java/lang/invoke/VarHandle") (hsig : parseMethodDescriptor b'.y.desc = some sig) (hlen : argsL.length = sig.parameters.length) (has : argsL.toArray = as') (hst : st' = argsL.reverse ++ st) (hsz : Ls.size = b.maxL) (hW : (st.map fun v => v.category).sum = W) (hf : b'.R.frames + 1 ≤ b.R.frames) (hl : W + (b'.maxL + 11) + b'.R.locals ≤ b.R.locals)
    (hk : k + b'.R.cells = k') (hn : n + b'.R.slots = n') (hk2 : k' ≤ b.R.cells) (hn2 : n' ≤ b.R.slots) (hq : pc + 3 = q) (K : ∀ v T' h', oPos l Z n0 w b T' h' k' n' → Q' v h' → oFin w b n0 Q T' q Ls (v.toList ++ st)) : oFin w b n0 Q T pc Ls st' := by
  subst hq hk hn has hst
  obtain ⟨hx, hZ, hown, hby, hml, hret, hlk, hnm, eT, locs, X, N⟩ := A
  obtain ⟨v, _, ⟨T', L', k', n'⟩, -, X', ⟨Lc, hQ', l', y', z'⟩, stp⟩ := Jvm.LawKit.callS X hx (y := b'.y) hown (mvT hZ w1) (mvT hZ w2) (mvT hZ w3) (mvT hZ w4) hy (backOf (W := W) (Q := fun v h' L => Q' v h' ∧ Fr n0 L) hM hZ w4 w3 hf hl) (g := mkF w.2.2.2.1 pc Ls (argsL.reverse ++ st)) rfl (hsz.trans hml.symm) (argsL := argsL) (rest := st) (lenOf hsig hlen) rfl (by show 2 * 0 + _ ≤ _; omega) (hb hby hd) (fun _ _ => ⟨rfl, eT, hk2, hn2⟩)
  dsimp only [Pt.U, Pt.locs, Pt.cells, Pt.slots] at X' l' y' z' stp hQ'
  subst l' y' z'
  exact o_go stp (K v T' _ ⟨hx, hZ, hown, hby, hml, hret, hlk, hnm, rfl, _, X', Fr.app N hQ'.2⟩ hQ'.1)
theorem o_callV (A : oPos l Z n0 w b T h k n) {b' : oBd} {as' : Array Value} {Q' : Option Value → Heap → Prop} {C : String} {a : Addr} {index W k' n' : Nat} {argsL : List Value} {sig : MethodDescriptor} (hM : oMet l b' [] Z n0 as' h Q') (hd : decode b.bytes pc = .ok (.invokevirtual index, 3)) (E : Exa Z h a C) (w1 : (Jvm.Cond.methodLink b.y.cls index b'.y).before a0 Z = true) (w2 : (Jvm.Cond.declares b'.y).before a0 Z = true) (ws : (Jvm.Cond.selects C b'.y b'.y).before a0 Z = true) (wi : (Jvm.Cond.instanceMethod b'.y).before a0 Z = true) (w3 : (Jvm.Cond.initialized b'.y.cls).before a0 Z = true) (w4 : (Jvm.Cond.code b'.y b'.bytes b'.maxL b'.ret).before a0 Z = true)
    (hy : b'.y.cls ≠ "java/lang/invoke/MethodHandle" ∧ b'.y.cls ≠ "java/lang/invoke/VarHandle") (hsig : parseMethodDescriptor b'.y.desc = some sig) (hlen : argsL.length = sig.parameters.length) (has : (.ref a :: argsL).toArray = as') (hst : st' = argsL.reverse ++ .ref a :: st) (hsz : Ls.size = b.maxL) (hW : (st.map fun v => v.category).sum = W) (hf : b'.R.frames + 1 ≤ b.R.frames) (hl : W + (b'.maxL + 11) + b'.R.locals ≤ b.R.locals)
    (hk : k + b'.R.cells = k') (hn : n + b'.R.slots = n') (hk2 : k' ≤ b.R.cells) (hn2 : n' ≤ b.R.slots) (hq : pc + 3 = q) (K : ∀ v T' h', oPos l Z n0 w b T' h' k' n' → Q' v h' → oFin w b n0 Q T' q Ls (v.toList ++ st)) : oFin w b n0 Q T pc Ls st' := by
  subst hq hk hn has hst
  obtain ⟨hx, hZ, hown, hby, hml, hret, hlk, hnm, eT, locs, X, N⟩ := A
  obtain ⟨cq, kq, qa, qb, qc⟩ := isOf hZ eT E
  obtain ⟨v, _, ⟨T', L', k', n'⟩, -, X', ⟨Lc, hQ', l', y', z'⟩, stp⟩ := X.virtualBack hx (y := b'.y) (z := b'.y) hown (mvT hZ w1) (mvT hZ w2) (notFace_of_selects (args := #[]) (mvT hZ ws)) (mvT hZ ws) (mvT hZ wi) hy (backOf (W := W) (Q := fun v h' L => Q' v h' ∧ Fr n0 L) hM hZ w4 w3 hf hl) qa qc (g := mkF w.2.2.2.1 pc Ls (argsL.reverse ++ .ref a :: st)) rfl (hsz.trans hml.symm) (Steps.refl _) (argsL := argsL) (rest := st) (lenOf hsig hlen) rfl (by show 2 * 0 + _ ≤ _; omega) (hb hby hd) (fun _ _ => ⟨rfl, eT, hk2, hn2⟩)
  dsimp only [Pt.U, Pt.locs, Pt.cells, Pt.slots] at X' l' y' z' stp hQ'
  subst l' y' z'
  exact o_go (fun t kk => stp.trans kk) (K v T' _ ⟨hx, hZ, hown, hby, hml, hret, hlk, hnm, rfl, _, X', Fr.app N hQ'.2⟩ hQ'.1)
theorem o_callP (A : oPos l Z n0 w b T h k n) {b' : oBd} {as' : Array Value} {Q' : Option Value → Heap → Prop} {C : String} {a : Addr} {index W k' n' : Nat} {argsL : List Value} {sig : MethodDescriptor} (hM : oMet l b' [] Z n0 as' h Q') (hd : decode b.bytes pc = .ok (.invokevirtual index, 3)) (E : Exa Z h a C) (w1 : (Jvm.Cond.methodLink b.y.cls index b'.y).before a0 Z = true) (wp : (Jvm.Cond.privateMethod b'.y).before a0 Z = true) {mm : Nat} (wn : (Jvm.Cond.instantiable b'.y.cls mm).before a0 Z = true) (wi : (Jvm.Cond.instanceMethod b'.y).before a0 Z = true) (w3 : (Jvm.Cond.initialized b'.y.cls).before a0 Z = true) (w4 : (Jvm.Cond.code b'.y b'.bytes b'.maxL b'.ret).before a0 Z = true)
    (hy : b'.y.cls ≠ "java/lang/invoke/MethodHandle" ∧ b'.y.cls ≠ "java/lang/invoke/VarHandle") (hsig : parseMethodDescriptor b'.y.desc = some sig) (hlen : argsL.length = sig.parameters.length) (has : (.ref a :: argsL).toArray = as') (hst : st' = argsL.reverse ++ .ref a :: st) (hsz : Ls.size = b.maxL) (hW : (st.map fun v => v.category).sum = W) (hf : b'.R.frames + 1 ≤ b.R.frames) (hl : W + (b'.maxL + 11) + b'.R.locals ≤ b.R.locals)
    (hk : k + b'.R.cells = k') (hn : n + b'.R.slots = n') (hk2 : k' ≤ b.R.cells) (hn2 : n' ≤ b.R.slots) (hq : pc + 3 = q) (K : ∀ v T' h', oPos l Z n0 w b T' h' k' n' → Q' v h' → oFin w b n0 Q T' q Ls (v.toList ++ st)) : oFin w b n0 Q T pc Ls st' := by
  subst hq hk hn has hst
  obtain ⟨hx, hZ, hown, hby, hml, hret, hlk, hnm, eT, locs, X, N⟩ := A
  obtain ⟨cq, qa, qb⟩ := E.cell
  obtain ⟨v, _, ⟨T', L', k', n'⟩, -, X', ⟨Lc, hQ', l', y', z'⟩, stp⟩ := X.privateBack hx (y := b'.y) hown (mvT hZ w1) (mvT hZ wi) (mvT hZ (o_selP hy wn wp wi)) (Cond.privateMethod_at (mvP hZ wp (args := #[]))) (mvT hZ w4) hy (backOf (W := W) (Q := fun v h' L => Q' v h' ∧ Fr n0 L) hM hZ w4 w3 hf hl) (g := mkF w.2.2.2.1 pc Ls (argsL.reverse ++ .ref a :: st)) rfl (hsz.trans hml.symm) (Steps.refl _) (a := a) (by rw [eT]; exact qa) qb (argsL := argsL) (rest := st) (lenOf hsig hlen) rfl (by show 2 * 0 + _ ≤ _; omega) (hb hby hd) (fun _ _ => ⟨rfl, eT, hk2, hn2⟩)
  dsimp only [Pt.U, Pt.locs, Pt.cells, Pt.slots] at X' l' y' z' stp hQ'
  subst l' y' z'
  exact o_go (fun t kk => stp.trans kk) (K v T' _ ⟨hx, hZ, hown, hby, hml, hret, hlk, hnm, rfl, _, X', Fr.app N hQ'.2⟩ hQ'.1)
theorem o_callC (A : oPos l Z n0 w b T h k n) {b' : oBd} {as' : Array Value} {Q' : Option Value → Heap → Prop} {a : Addr} {index W k' n' : Nat} {argsL : List Value} {sig : MethodDescriptor} (hM : oMet l b' [] Z n0 as' h Q') (hd : decode b.bytes pc = .ok (.invokespecial index, 3)) (hi : b'.y.name = "<init>") (w1 : (Jvm.Cond.methodLink b.y.cls index b'.y).before a0 Z = true) (wi : (Jvm.Cond.instanceMethod b'.y).before a0 Z = true) (w3 : (Jvm.Cond.initialized b'.y.cls).before a0 Z = true) (w4 : (Jvm.Cond.code b'.y b'.bytes b'.maxL b'.ret).before a0 Z = true) (hrn : b'.ret = none)
    (hy : b'.y.cls ≠ "java/lang/invoke/MethodHandle" ∧ b'.y.cls ≠ "java/lang/invoke/VarHandle") (hsig : parseMethodDescriptor b'.y.desc = some sig) (hlen : argsL.length = sig.parameters.length) (has : (.ref a :: argsL).toArray = as') (hst : st' = argsL.reverse ++ .ref a :: st) (hsz : Ls.size = b.maxL) (hW : (st.map fun v => v.category).sum = W) (hf : b'.R.frames + 1 ≤ b.R.frames) (hl : W + (b'.maxL + 11) + b'.R.locals ≤ b.R.locals)
    (hk : k + b'.R.cells = k') (hn : n + b'.R.slots = n') (hk2 : k' ≤ b.R.cells) (hn2 : n' ≤ b.R.slots) (hq : pc + 3 = q) (K : ∀ v T' h', oPos l Z n0 w b T' h' k' n' → Q' v h' → oFin w b n0 Q T' q Ls (v.toList ++ st)) : oFin w b n0 Q T pc Ls st' := by
  subst hq hk hn has hst
  obtain ⟨hx, hZ, hown, hby, hml, hret, hlk, hnm, eT, locs, X, N⟩ := A
  obtain ⟨v, _, ⟨T', L', k', n'⟩, -, X', ⟨Lc, hQ', l', y', z'⟩, stp⟩ := X.specialBack hx (y := b'.y) hi hown (mvT hZ w1) (mvT hZ wi) (bytes := b'.bytes) (maxL := b'.maxL) (mvT hZ (by rw [← hrn]; exact w4)) hy (backOf (W := W) (Q := fun v h' L => Q' v h' ∧ Fr n0 L) hM hZ w4 w3 hf hl) (g := mkF w.2.2.2.1 pc Ls (argsL.reverse ++ .ref a :: st)) rfl (hsz.trans hml.symm) (Steps.refl _) (a := a) (argsL := argsL) (rest := st) (lenOf hsig hlen) rfl (by show 2 * 0 + _ ≤ _; omega) (hb hby hd) (fun _ _ => ⟨rfl, eT, hk2, hn2⟩)
  dsimp only [Pt.U, Pt.locs, Pt.cells, Pt.slots] at X' l' y' z' stp hQ'
  subst l' y' z'
  exact o_go (fun t kk => stp.trans kk) (K v T' _ ⟨hx, hZ, hown, hby, hml, hret, hlk, hnm, rfl, _, X', Fr.app N hQ'.2⟩ hQ'.1)

/-- an array of n places; place i holds f i -/
def oArr (Z : State) (h : Heap) (a : Addr) (ty : FieldType) (n : Nat) (f : Nat → Value) : Prop := n < 2 ^ 31 ∧ ∃ c : Cell, Arr Z h a c ty ∧ c.slots.size = n ∧ ∀ i, i < n → c.slots[i]? = some (f i)
theorem o_ix {j : Int32} {i m : Nat} (hj : j.toInt = (i : Int)) (hi : i < m) : j.toNatClampNeg = i ∧ ¬ (j < 0 ∨ m ≤ j.toNatClampNeg) := by
  have e1 : j.toNatClampNeg = i := by
    show j.toInt.toNat = i
    rw [hj]; rfl
  refine ⟨e1, ?_⟩
  rw [e1, Int32.lt_iff_toInt_lt, hj, Int32.toInt_zero]
  omega
section Arrays
variable {h1 h2 : Heap} {a c : Addr} {ty : FieldType} {m : Nat} {f : Nat → Value} {sl : Nat} {v : Value} {ws : List Addr}
theorem oArr.lt (F : oArr Z h1 a ty m f) : a < h1.size := by obtain ⟨-, c, A, -⟩ := F; exact A.lt
theorem oArr.ext (F : oArr Z h1 a ty m f) (E : Ext h1 h2) : oArr Z h2 a ty m f := by obtain ⟨q, c, A, r⟩ := F; exact ⟨q, c, A.ext E, r⟩
theorem oArr.other (F : oArr Z h1 a ty m f) (W : Wr h1 h2 c sl v) (q : a ≠ c) : oArr Z h2 a ty m f := by obtain ⟨p, c, A, r⟩ := F; exact ⟨p, c, A.other W q, r⟩
theorem oArr.keep (F : oArr Z h1 a ty m f) (K : Keep h1 h2 ws) (q : a ∉ ws) : oArr Z h2 a ty m f := by obtain ⟨p, c, A, r⟩ := F; exact ⟨p, c, ⟨K.2.1 a c A.1 q, A.2⟩, r⟩
theorem oArr.same (F : oArr Z h1 a ty m f) (W : Wr h1 h2 a sl v) : oArr Z h2 a ty m (fun i => if i = sl then v else f i) := by
  obtain ⟨p, c, A, S, H⟩ := F
  refine ⟨p, _, A.same W, by rw [← S]; simp [Cell.setSlot], fun i hi => ?_⟩
  show (c.slots.setIfInBounds sl v)[i]? = _
  by_cases e : i = sl
  · subst e
    simp [S, hi]
  · simp only [if_neg e]
    rw [Array.getElem?_setIfInBounds_ne (Ne.symm e)]
    exact H i hi
theorem oArr.congr {f' : Nat → Value} (F : oArr Z h1 a ty m f) (q : ∀ i, i < m → f i = f' i) : oArr Z h1 a ty m f' := by
  obtain ⟨p, c, A, S, H⟩ := F
  exact ⟨p, c, A, S, fun i hi => by rw [← q i hi]; exact H i hi⟩
end Arrays
theorem o_arraylength (A : oPos l Z n0 w b T h k n) {a : Addr} {ty : FieldType} {m : Nat} {f : Nat → Value} {z : Int32} (hd : decode b.bytes pc = .ok (.arraylength, 1)) (F : oArr Z h a ty m f) (hz : m.toInt32 = z) (hq : pc + 1 = q) (K : oFin w b n0 Q T q Ls (.int z :: st)) : oFin w b n0 Q T pc Ls (.ref a :: st) := by
  subst hq hz
  obtain ⟨hx, hZ, hown, hby, hml, hret, hlk, hnm, eT, locs, X, N⟩ := A
  obtain ⟨-, c, Ar, S, -⟩ := F
  subst S
  exact o_go (fun t kk => X.arraylength hx (by rw [eT]; exact Ar.1) (State.isArrayOf_alike hZ.alike Ar.2.1) (g := mkF w.2.2.2.1 pc Ls (.ref a :: st)) rfl rfl (hb hby hd) t kk) K

theorem o_iaload (A : oPos l Z n0 w b T h k n) {a : Addr} {m i : Nat} {f : Nat → Value} {j : Int32} {v : Value} (hd : decode b.bytes pc = .ok (.iaload, 1)) (F : oArr Z h a .int m f) (hj : j.toInt = (i : Int)) (hi : i < m) (hv : f i = v) (hq : pc + 1 = q) (K : oFin w b n0 Q T q Ls (v :: st)) : oFin w b n0 Q T pc Ls (.int j :: .ref a :: st) := by
  subst hq hv
  obtain ⟨hx, hZ, hown, hby, hml, hret, hlk, hnm, eT, locs, X, N⟩ := A
  obtain ⟨-, c, Ar, S, H⟩ := F
  subst S
  exact o_go (fun t kk => X.iaload hx (j := j) (v := f i) (by rw [eT]; exact Ar.1) (State.isArrayOf_alike hZ.alike Ar.2.1) Ar.2.2 (o_ix hj hi).2 (by rw [(o_ix hj hi).1]; exact H i hi) (g := mkF w.2.2.2.1 pc Ls (.int j :: .ref a :: st)) rfl rfl (hb hby hd) t kk) K
theorem o_laload (A : oPos l Z n0 w b T h k n) {a : Addr} {m i : Nat} {f : Nat → Value} {j : Int32} {v : Value} (hd : decode b.bytes pc = .ok (.laload, 1)) (F : oArr Z h a .long m f) (hj : j.toInt = (i : Int)) (hi : i < m) (hv : f i = v) (hq : pc + 1 = q) (K : oFin w b n0 Q T q Ls (v :: st)) : oFin w b n0 Q T pc Ls (.int j :: .ref a :: st) := by
  subst hq hv
  obtain ⟨hx, hZ, hown, hby, hml, hret, hlk, hnm, eT, locs, X, N⟩ := A
  obtain ⟨-, c, Ar, S, H⟩ := F
  subst S
  exact o_go (fun t kk => X.laload hx (j := j) (v := f i) (by rw [eT]; exact Ar.1) (State.isArrayOf_alike hZ.alike Ar.2.1) Ar.2.2 (o_ix hj hi).2 (by rw [(o_ix hj hi).1]; exact H i hi) (g := mkF w.2.2.2.1 pc Ls (.int j :: .ref a :: st)) rfl rfl (hb hby hd) t kk) K
theorem o_baload (A : oPos l Z n0 w b T h k n) {a : Addr} {m i : Nat} {f : Nat → Value} {j : Int32} {v : Value} (hd : decode b.bytes pc = .ok (.baload, 1)) (F : oArr Z h a .byte m f) (hj : j.toInt = (i : Int)) (hi : i < m) (hv : f i = v) (hq : pc + 1 = q) (K : oFin w b n0 Q T q Ls (v :: st)) : oFin w b n0 Q T pc Ls (.int j :: .ref a :: st) := by
  subst hq hv
  obtain ⟨hx, hZ, hown, hby, hml, hret, hlk, hnm, eT, locs, X, N⟩ := A
  obtain ⟨-, c, Ar, S, H⟩ := F
  subst S
  exact o_go (fun t kk => X.baloadBytes hx (j := j) (v := f i) (by rw [eT]; exact Ar.1) (State.isArrayOf_alike hZ.alike Ar.2.1) Ar.2.2 (o_ix hj hi).2 (by rw [(o_ix hj hi).1]; exact H i hi) (g := mkF w.2.2.2.1 pc Ls (.int j :: .ref a :: st)) rfl rfl (hb hby hd) t kk) K
theorem o_aaload (A : oPos l Z n0 w b T h k n) {a : Addr} {m i : Nat} {f : Nat → Value} {j : Int32} {v : Value} {ty : FieldType} (hd : decode b.bytes pc = .ok (.aaload, 1)) (F : oArr Z h a ty m f) (hty : ty.isReference = true) (hj : j.toInt = (i : Int)) (hi : i < m) (hv : f i = v) (hq : pc + 1 = q) (K : oFin w b n0 Q T q Ls (v :: st)) : oFin w b n0 Q T pc Ls (.int j :: .ref a :: st) := by
  subst hq hv
  obtain ⟨hx, hZ, hown, hby, hml, hret, hlk, hnm, eT, locs, X, N⟩ := A
  obtain ⟨-, c, Ar, S, H⟩ := F
  subst S
  exact o_go (fun t kk => X.aaload hx (j := j) (v := f i) (by rw [eT]; exact Ar.1) (State.isArrayOf_alike hZ.alike Ar.2.1) hty Ar.2.2 (o_ix hj hi).2 (by rw [(o_ix hj hi).1]; exact H i hi) (g := mkF w.2.2.2.1 pc Ls (.int j :: .ref a :: st)) rfl rfl (hb hby hd) t kk) K
theorem o_iastore (A : oPos l Z n0 w b T h k n) {a : Addr} {m i : Nat} {f : Nat → Value} {j : Int32} {x : Int32} (hd : decode b.bytes pc = .ok (.iastore, 1)) (F : oArr Z h a .int m f) (hj : j.toInt = (i : Int)) (hi : i < m) (ha : n0 ≤ a) (hq : pc + 1 = q) (K : ∀ T' h', oPos l Z n0 w b T' h' k n → Wr h h' a i (.int x) → oFin w b n0 Q T' q Ls st) : oFin w b n0 Q T pc Ls (.int x :: .int j :: .ref a :: st) := by
  subst hq
  obtain ⟨hx, hZ, hown, hby, hml, hret, hlk, hnm, eT, locs, X, N⟩ := A
  obtain ⟨-, c, Ar, S, H⟩ := F
  subst S
  obtain ⟨e1, e2⟩ := o_ix hj hi
  obtain ⟨T', h', X', e', W, st'⟩ := stI X hx hZ eT Ar (j := j) e2 (g := mkF w.2.2.2.1 pc Ls (.int x :: .int j :: .ref a :: st)) rfl rfl (hb hby hd)
  rw [e1] at W
  exact o_go st' (K T' h' ⟨hx, hZ, hown, hby, hml, hret, hlk, hnm, e', _, X', Fr.snoc X' N ha⟩ W)
theorem o_lastore (A : oPos l Z n0 w b T h k n) {a : Addr} {m i : Nat} {f : Nat → Value} {j : Int32} {x : Int64} (hd : decode b.bytes pc = .ok (.lastore, 1)) (F : oArr Z h a .long m f) (hj : j.toInt = (i : Int)) (hi : i < m) (ha : n0 ≤ a) (hq : pc + 1 = q) (K : ∀ T' h', oPos l Z n0 w b T' h' k n → Wr h h' a i (.long x) → oFin w b n0 Q T' q Ls st) : oFin w b n0 Q T pc Ls (.long x :: .int j :: .ref a :: st) := by
  subst hq
  obtain ⟨hx, hZ, hown, hby, hml, hret, hlk, hnm, eT, locs, X, N⟩ := A
  obtain ⟨-, c, Ar, S, H⟩ := F
  subst S
  obtain ⟨e1, e2⟩ := o_ix hj hi
  obtain ⟨T', h', X', e', W, st'⟩ := stJ X hx hZ eT Ar (j := j) e2 (g := mkF w.2.2.2.1 pc Ls (.long x :: .int j :: .ref a :: st)) rfl rfl (hb hby hd)
  rw [e1] at W
  exact o_go st' (K T' h' ⟨hx, hZ, hown, hby, hml, hret, hlk, hnm, e', _, X', Fr.snoc X' N ha⟩ W)
theorem o_bastore (A : oPos l Z n0 w b T h k n) {a : Addr} {m i : Nat} {f : Nat → Value} {j : Int32} {x : Int32} (hd : decode b.bytes pc = .ok (.bastore, 1)) (F : oArr Z h a .byte m f) (hj : j.toInt = (i : Int)) (hi : i < m) (ha : n0 ≤ a) (hq : pc + 1 = q) (K : ∀ T' h', oPos l Z n0 w b T' h' k n → Wr h h' a i (.int (nar .byte x)) → oFin w b n0 Q T' q Ls st) : oFin w b n0 Q T pc Ls (.int x :: .int j :: .ref a :: st) := by
  subst hq
  obtain ⟨hx, hZ, hown, hby, hml, hret, hlk, hnm, eT, locs, X, N⟩ := A
  obtain ⟨-, c, Ar, S, H⟩ := F
  subst S
  obtain ⟨e1, e2⟩ := o_ix hj hi
  obtain ⟨T', h', X', e', W, st'⟩ := stB X hx hZ eT Ar (j := j) e2 (g := mkF w.2.2.2.1 pc Ls (.int x :: .int j :: .ref a :: st)) rfl rfl (hb hby hd)
  rw [e1] at W
  exact o_go st' (K T' h' ⟨hx, hZ, hown, hby, hml, hret, hlk, hnm, e', _, X', Fr.snoc X' N ha⟩ W)
theorem o_kept {s u : State} {h : Heap} (K : Jvm.Free.XT.Kept s u) (e : s.heap = h) : Ext h u.heap := by
  subst e
  refine ⟨Nat.le_of_not_lt fun q => ?_, K⟩
  have hlt : s.heap.size - 1 < s.heap.size := by omega
  have h1 := (Array.getElem?_eq_some_iff.mp (K (s.heap.size - 1) _ (Array.getElem?_eq_getElem hlt))).1
  omega
theorem o_ext {h h' : Heap} (K : Keep h h' []) : Ext h h' := ⟨K.1, fun x c q => K.2.1 x c q nin0⟩
theorem o_exrefl (h : Heap) : Ext h h := ⟨Nat.le_refl _, fun _ _ q => q⟩
theorem o_extr {h h' h2 : Heap} (E : Ext h h') (E2 : Ext h' h2) : Ext h h2 := ⟨Nat.le_trans E.1 E2.1, fun x c q => E2.2 x c (E.2 x c q)⟩
theorem o_exwr {h h' h2 : Heap} {a : Addr} {sl : Nat} {v : Value} (E : Ext h h') (W : Wr h' h2 a sl v) (q : h.size ≤ a) : Ext h h2 := by
  refine ⟨by rw [W.size]; exact E.1, fun x c hc => ?_⟩
  have hx : x < h.size := (Array.getElem?_eq_some_iff.mp hc).1
  obtain ⟨c', e1, -, -, -, e5, -⟩ := wr_at W (E.2 x c hc)
  rw [← e5 (Nat.ne_of_lt (Nat.lt_of_lt_of_le hx q))]; exact e1
/-- isArrayOf, carried back to the start's tables -/
theorem o_arrBack {Z u : State} (hal : Z.vm.Alike u.vm) {B : Cell} {t : FieldType} (hA : u.isArrayOf B t) {ad : String} (hf : u.vm.findClass ad = some B.cls) : Z.isArrayOf B t ∧ ∃ kZ, Z.vm.findClass ad = some B.cls ∧ Z.vm.classes[B.cls]? = some kZ ∧ ∃ comp, kZ.kind = .array comp t := by
  rw [hal.findClass] at hf
  obtain ⟨kZ, z1, -⟩ := Vm.findClass_spec hf
  obtain ⟨k', z2, z3⟩ := hal.2.2 _ _ z1
  obtain ⟨q0, k2, q1, comp, q2⟩ := hA
  cases q1.symm.trans z2
  have q3 : kZ.kind = .array comp t := by rw [← q2, z3]
  exact ⟨⟨q0, kZ, z1, comp, q3⟩, kZ, hf, z1, comp, q3⟩
theorem o_copyOfI (A : oPos l Z n0 w b T h k n) {a : Addr} {m j : Nat} {f : Nat → Int32} {z : Int32} {index W k' n' : Nat} (hd : decode b.bytes pc = .ok (.invokestatic index, 3)) (V : oArr Z h a .int m (fun i => .int (f i))) (E : Exa Z h a "[I") (hz : Int32.ofNat j = z) (hj : j ≤ 134217728) (w1 : (Jvm.Cond.methodLink b.y.cls index Jvm.Free.JA.CopyOfI.yN).before a0 Z = true) (w2 : (Jvm.Cond.static Jvm.Free.JA.CopyOfI.yN).before a0 Z = true) (w3 : (Jvm.Cond.initialized "java/util/Arrays").before a0 Z = true) (w4 : (Jvm.Cond.code Jvm.Free.JA.CopyOfI.yN Jvm.Free.JA.CopyOfI.yB 3 (some (.array .int))).before a0 Z = true)
    (ws : ∀ d ∈ Jvm.Free.JA.CopyOfI.site, d.before w.2.2.2.2.1 w.2.2.1 = true) (hsz : Ls.size = b.maxL) (hW : (st.map fun v => v.category).sum = W) (hf : 2 ≤ b.R.frames) (hl : W + 54 ≤ b.R.locals) (hk : k + 1 = k') (hn : n + j = n') (hk2 : k' ≤ b.R.cells) (hn2 : n' ≤ b.R.slots) (hq : pc + 3 = q)
    (K : ∀ T' h' r, r = h.size → oPos l Z n0 w b T' h' k' n' → Ext h h' → oArr Z h' r .int j (fun i => if i < m then .int (f i) else .int 0) → Exa Z h' r "[I" → oFin w b n0 Q T' q Ls (.ref r :: st)) : oFin w b n0 Q T pc Ls (.int z :: .ref a :: st) := by
  subst hq hk hn hz
  obtain ⟨hx, hZ, hown, hby, hml, hret, hlk, hnm, eT, locs, X, N⟩ := A
  obtain ⟨hm, cl, Ar, S, H⟩ := V
  obtain ⟨cl', kc, e1, e2, e3, e4, -⟩ := E
  cases e1.symm.trans Ar.1
  have hal : Z.vm.Alike w.2.2.1.vm := hZ.alike
  have hty : Jvm.Free.XT.Typed .int cl := fun i v hv => by
    have hi : i < cl.slots.size := (Array.getElem?_eq_some_iff.mp hv).1
    rw [H i (by omega)] at hv
    cases hv; rfl
  have htab : Jvm.Free.JA.CopyOfI.tab.before w.2.2.2.2.1 w.2.2.1 = true := Jvm.Free.XT.unparts (mvT hZ w4) (fun d hd' => (List.mem_cons.mp hd').elim (fun e => e ▸ mvT hZ w3) (ws d))
  obtain ⟨v, vm₁, ⟨T', L', k', n'⟩, hW₁, X', ⟨hE, l', y', z'⟩, stp⟩ := Jvm.LawKit.callS X hx (y := Jvm.Free.JA.CopyOfI.yN) hown (mvT hZ w1) (mvT hZ w2) (mvT hZ w3) (mvT hZ w4) (by decide) (Jvm.Free.JA.CopyOfI.pays (W := W) a cl j htab hf hl) (g := mkF w.2.2.2.1 pc Ls (.int (Int32.ofNat j) :: .ref a :: st)) rfl (hsz.trans hml.symm) (argsL := [.ref a, .int (Int32.ofNat j)]) (rest := st) (lenOf (show parseMethodDescriptor "([II)[I" = some ⟨[.array .int, .int], some (.array .int)⟩ by decide +kernel) rfl) rfl (by show 2 * 0 + _ ≤ _; omega) (hb hby hd)
    (fun vm₁ hv₁ => ⟨hk2, hn2, rfl, ⟨by show T.heap[a]? = _; rw [eT]; exact Ar.1, State.isArrayOf_alike (hal.trans hv₁.alike) Ar.2.1, Ar.2.2, by omega⟩, by show vm₁.findClass _ = _; rw [(hal.trans hv₁.alike).findClass]; exact e2, hty, hj⟩)
  dsimp only [Pt.U, Pt.locs, Pt.cells, Pt.slots] at X' l' y' z' stp hE
  subst l' y' z'
  obtain ⟨rfl, B, b1, b2, b3, b4, b5, b6⟩ := hE
  have halU : Z.vm.Alike T'.vm := hal.trans X'.warmed.alike
  obtain ⟨c1, kZ, c2, c3, comp, c4⟩ := o_arrBack halU b1.2.1 b3
  have hsz' : (T.setVm vm₁).heap.size = h.size := by rw [← eT]; rfl
  rw [hsz'] at b1 stp
  refine o_go stp (K T' _ _ rfl ⟨hx, hZ, hown, hby, hml, hret, hlk, hnm, rfl, _, X', by rw [List.append_nil]; exact N⟩ ?_ ⟨by omega, B, ⟨b1.1, c1, b1.2.2.1⟩, b4, fun i hi => ?_⟩ ⟨B, kZ, b1.1, c2, c3, by rw [b2]; rfl, fun q => by rw [c4] at q; cases q⟩)
  · exact o_kept b6 (by show T.heap = h; exact eT)
  · rw [b5 i hi]
    show some (cl.slots.getD i (defaultValue .int)) = some (if i < m then .int (f i) else .int 0)
    by_cases e : i < m
    · rw [if_pos e]
      have := H i e
      simp [Array.getD_eq_getD_getElem?, this]
    · rw [if_neg e]
      simp [Array.getD_eq_getD_getElem?, Array.getElem?_eq_none (show cl.slots.size ≤ i by omega)]; rfl
theorem o_copyOfJ (A : oPos l Z n0 w b T h k n) {a : Addr} {m j : Nat} {f : Nat → Int64} {z : Int32} {index W k' n' : Nat} (hd : decode b.bytes pc = .ok (.invokestatic index, 3)) (V : oArr Z h a .long m (fun i => .long (f i))) (E : Exa Z h a "[J") (hz : Int32.ofNat j = z) (hj : j ≤ 67108864) (w1 : (Jvm.Cond.methodLink b.y.cls index Jvm.Free.JA.CopyOfJ.yN).before a0 Z = true) (w2 : (Jvm.Cond.static Jvm.Free.JA.CopyOfJ.yN).before a0 Z = true) (w3 : (Jvm.Cond.initialized "java/util/Arrays").before a0 Z = true) (w4 : (Jvm.Cond.code Jvm.Free.JA.CopyOfJ.yN Jvm.Free.JA.CopyOfJ.yB 3 (some (.array .long))).before a0 Z = true)
    (ws : ∀ d ∈ Jvm.Free.JA.CopyOfJ.site, d.before w.2.2.2.2.1 w.2.2.1 = true) (hsz : Ls.size = b.maxL) (hW : (st.map fun v => v.category).sum = W) (hf : 2 ≤ b.R.frames) (hl : W + 54 ≤ b.R.locals) (hk : k + 1 = k') (hn : n + j = n') (hk2 : k' ≤ b.R.cells) (hn2 : n' ≤ b.R.slots) (hq : pc + 3 = q)
    (K : ∀ T' h' r, r = h.size → oPos l Z n0 w b T' h' k' n' → Ext h h' → oArr Z h' r .long j (fun i => if i < m then .long (f i) else .long 0) → Exa Z h' r "[J" → oFin w b n0 Q T' q Ls (.ref r :: st)) : oFin w b n0 Q T pc Ls (.int z :: .ref a :: st) := by
  subst hq hk hn hz
  obtain ⟨hx, hZ, hown, hby, hml, hret, hlk, hnm, eT, locs, X, N⟩ := A
  obtain ⟨hm, cl, Ar, S, H⟩ := V
  obtain ⟨cl', kc, e1, e2, e3, e4, -⟩ := E
  cases e1.symm.trans Ar.1
  have hal : Z.vm.Alike w.2.2.1.vm := hZ.alike
  have hty : Jvm.Free.XT.Typed .long cl := fun i v hv => by
    have hi : i < cl.slots.size := (Array.getElem?_eq_some_iff.mp hv).1
    rw [H i (by omega)] at hv
    cases hv; rfl
  have htab : Jvm.Free.JA.CopyOfJ.tab.before w.2.2.2.2.1 w.2.2.1 = true := Jvm.Free.XT.unparts (mvT hZ w4) (fun d hd' => (List.mem_cons.mp hd').elim (fun e => e ▸ mvT hZ w3) (ws d))
  obtain ⟨v, vm₁, ⟨T', L', k', n'⟩, hW₁, X', ⟨hE, l', y', z'⟩, stp⟩ := Jvm.LawKit.callS X hx (y := Jvm.Free.JA.CopyOfJ.yN) hown (mvT hZ w1) (mvT hZ w2) (mvT hZ w3) (mvT hZ w4) (by decide) (Jvm.Free.JA.CopyOfJ.pays (W := W) a cl j htab hf hl) (g := mkF w.2.2.2.1 pc Ls (.int (Int32.ofNat j) :: .ref a :: st)) rfl (hsz.trans hml.symm) (argsL := [.ref a, .int (Int32.ofNat j)]) (rest := st) (lenOf (show parseMethodDescriptor "([JI)[J" = some ⟨[.array .long, .int], some (.array .long)⟩ by decide +kernel) rfl) rfl (by show 2 * 0 + _ ≤ _; omega) (hb hby hd)
    (fun vm₁ hv₁ => ⟨hk2, hn2, rfl, ⟨by show T.heap[a]? = _; rw [eT]; exact Ar.1, State.isArrayOf_alike (hal.trans hv₁.alike) Ar.2.1, Ar.2.2, by omega⟩, by show vm₁.findClass _ = _; rw [(hal.trans hv₁.alike).findClass]; exact e2, hty, hj⟩)
  dsimp only [Pt.U, Pt.locs, Pt.cells, Pt.slots] at X' l' y' z' stp hE
  subst l' y' z'
  obtain ⟨rfl, B, b1, b2, b3, b4, b5, b6⟩ := hE
  have halU : Z.vm.Alike T'.vm := hal.trans X'.warmed.alike
  obtain ⟨c1, kZ, c2, c3, comp, c4⟩ := o_arrBack halU b1.2.1 b3
  have hsz' : (T.setVm vm₁).heap.size = h.size := by rw [← eT]; rfl
  rw [hsz'] at b1 stp
  refine o_go stp (K T' _ _ rfl ⟨hx, hZ, hown, hby, hml, hret, hlk, hnm, rfl, _, X', by rw [List.append_nil]; exact N⟩ ?_ ⟨by omega, B, ⟨b1.1, c1, b1.2.2.1⟩, b4, fun i hi => ?_⟩ ⟨B, kZ, b1.1, c2, c3, by rw [b2]; rfl, fun q => by rw [c4] at q; cases q⟩)
  · exact o_kept b6 (by show T.heap = h; exact eT)
  · rw [b5 i hi]
    show some (cl.slots.getD i (defaultValue .long)) = some (if i < m then .long (f i) else .long 0)
    by_cases e : i < m
    · rw [if_pos e]
      have := H i e
      simp [Array.getD_eq_getD_getElem?, this]
    · rw [if_neg e]
      simp [Array.getD_eq_getD_getElem?, Array.getElem?_eq_none (show cl.slots.size ≤ i by omega)]; rfl
theorem o_newarr (A : oPos l Z n0 w b T h k n) {aty : ArrayType} {ty : FieldType} {z : Int32} {m cap k' n' : Nat} (hd : decode b.bytes pc = .ok (.newarray aty, 2)) (hty : newarray.typeOf aty = ty) (wd : (Jvm.Cond.arrayClass ty).before a0 Z = true) (hz : z.toInt = (m : Int)) (hcap : m ≤ cap) (hbig : cap * 8 ≤ 536870912) (hk : k + 1 = k') (hn : n + cap = n') (hk2 : k' ≤ b.R.cells) (hn2 : n' ≤ b.R.slots) (hq : pc + 2 = q) {ad : String} (had : "[" ++ ty.toString = ad)
    (K : ∀ T' h' a, a = h.size → oPos l Z n0 w b T' h' k' n' → Ext h h' → oArr Z h' a ty m (fun _ => defaultValue ty) → Exa Z h' a ad → oFin w b n0 Q T' q Ls (.ref a :: st)) : oFin w b n0 Q T pc Ls (.int z :: st) := by
  subst hq hk hn hty
  obtain ⟨hx, hZ, hown, hby, hml, hret, hlk, hnm, eT, locs, X, N⟩ := A
  have e1 : z.toNatClampNeg = m := by show z.toInt.toNat = m; rw [hz]; rfl
  have e2 : ¬ z < 0 := by rw [Int32.lt_iff_toInt_lt, hz, Int32.toInt_zero]; omega
  obtain ⟨T', h', cA, X', e', E, Ar, Ea, st'⟩ := newPE X hx hZ wd eT (g := mkF w.2.2.2.1 pc Ls (.int z :: st)) rfl (hb hby hd) rfl e2 (cap := cap) (by rw [e1]; exact hcap) hbig hk2 hn2 had
  refine o_go st' (K T' h' _ rfl ⟨hx, hZ, hown, hby, hml, hret, hlk, hnm, e', _, X', N⟩ E ⟨?_, _, Ar, (sz_new _ _ _).trans e1, fun i hi => ?_⟩ Ea)
  · have := z.toInt_lt; omega
  · show (Array.replicate z.toNatClampNeg _)[i]? = _
    rw [e1]; simp [hi]
end Steps
end Jvm.OwnKit
namespace Jvm.Pilot.@@N@@
open Jvm Jvm.ClassFile Sem Op Lib Jvm.Free Jvm.Stand Jvm.LawKit Jvm.RoadKit Bundle Jvm.OwnKit Jvm.Pilot.@@N@@.Jvm.D
/-- place i grows by d -/
def own_upd (f : Nat → Int64) (i : Nat) (d : Int64) : Nat → Int64 := fun j => if j = i then f i + d else f j
/-- the column k over the first r slots -/
def own_col (f : Nat → Int64) (k : Nat) : Nat → Int64
  | 0 => 0
  | r + 1 => own_col f k r + f (16 * r + k)
theorem own_upd0 (f : Nat → Int64) (i : Nat) : own_upd f i 0 = f := by
  funext j; unfold own_upd; split
  · rename_i h; rw [h, Int64.add_zero]
  · rfl
theorem own_col_upd (f : Nat → Int64) (s k k' : Nat) (d : Int64) (hk : k < 16) (hk' : k' < 16) : ∀ r, own_col (own_upd f (16 * s + k') d) k r = own_col f k r + if s < r ∧ k = k' then d else 0 := by
  intro r
  induction r with
  | zero => simp [own_col]
  | succ r ih =>
    show own_col (own_upd f (16 * s + k') d) k r + own_upd f (16 * s + k') d (16 * r + k) = own_col f k r + f (16 * r + k) + _
    rw [ih]
    by_cases e : 16 * r + k = 16 * s + k'
    · have e1 : r = s := by omega
      have e2 : k = k' := by omega
      subst e1 e2
      rw [if_neg (by omega), if_pos (by omega)]
      simp only [own_upd, if_true]
      rw [Int64.add_zero, Int64.add_assoc]
    · simp only [own_upd, if_neg e]
      by_cases q : s < r ∧ k = k'
      · rw [if_pos q, if_pos (by omega)]
        rw [Int64.add_assoc, Int64.add_assoc, Int64.add_comm d]
      · rw [if_neg q, if_neg (by omega), Int64.add_zero, Int64.add_zero]
def own_TI (Z : State) (n0 : Nat) (h : Heap) (t ca : Addr) (o : Int32) (N : Nat) (f : Nat → Int64) : Prop :=
  Exa Z h t "com/example/tideloom/tideloom/Tally" ∧ Fld Z h t "com/example/tideloom/tideloom/Tally" "oneRunner" "Z" (.int o) ∧ Fld Z h t "com/example/tideloom/tideloom/Tally" "counts" "[J" (.ref ca) ∧ oArr Z h ca .long N (fun i => .long (f i)) ∧ n0 ≤ ca ∧ t ≠ ca
theorem own_TI.st {Z : State} {n0 : Nat} {h h' : Heap} {t ca : Addr} {o : Int32} {N i : Nat} {f : Nat → Int64} {x : Int64} {d : Int64} (I : own_TI Z n0 h t ca o N f) (W : Wr h h' ca i (.long x)) (hx : x = f i + d) : own_TI Z n0 h' t ca o N (own_upd f i d) := by
  obtain ⟨E, F1, F2, V, g, ne⟩ := I
  refine ⟨E.wr W, F1.other W (Or.inl ne), F2.other W (Or.inl ne), (V.same W).congr fun j hj => ?_, g, ne⟩
  subst hx
  show (if j = i then Value.long (f i + d) else Value.long (f j)) = Value.long (if j = i then f i + d else f j)
  split <;> rfl
theorem own_TI.ext {Z : State} {n0 : Nat} {h h' : Heap} {t ca : Addr} {o : Int32} {N : Nat} {f : Nat → Int64} (I : own_TI Z n0 h t ca o N f) (E : Ext h h') : own_TI Z n0 h' t ca o N f := by
  obtain ⟨Ex, F1, F2, V, g, ne⟩ := I
  exact ⟨Ex.ext E, F1.ext E, F2.ext E, V.ext E, g, ne⟩
theorem own_TI.other {Z : State} {n0 : Nat} {h h' : Heap} {t ca sa : Addr} {o : Int32} {N i : Nat} {f : Nat → Int64} {v : Value} (I : own_TI Z n0 h t ca o N f) (W : Wr h h' sa i v) (h1 : t ≠ sa) (h2 : ca ≠ sa) : own_TI Z n0 h' t ca o N f := by
  obtain ⟨E, F1, F2, V, g, ne⟩ := I
  exact ⟨E.wr W, F1.other W (Or.inl h1), F2.other W (Or.inl h1), V.other W h2, g, ne⟩
theorem own_k (k : Nat) (hk : k < 100) : (Int32.ofNat k).toInt = (k : Int) := Int32.toInt_ofNat_of_lt (by omega)
theorem own_ix16 {s : Int32} {i : Nat} (hs : s.toInt = (i : Int)) (hi : i < 100) : (s * 16).toInt = ((16 * i : Nat) : Int) := by
  have k16 : (16 : Int32).toInt = 16 := by decide
  rw [Jvm.Kit.i32_mul (by rw [k16]; omega) (by rw [k16]; omega), k16, hs]; omega
theorem own_ixk {r : Int32} {i : Nat} (hr : r.toInt = (i : Int)) (hi : i < 100) {k : Int32} {j : Nat} (hk : k.toInt = (j : Int)) (hj : j < 100) : (r + k).toInt = ((i + j : Nat) : Int) := by
  rw [Jvm.Kit.i32_add (by omega) (by omega), hr, hk]; omega
theorem d1_0 : decode jdk_29_method_65_code 0 = .ok (.iload_n 0, 1) := by decide +kernel
theorem d1_1 : decode jdk_29_method_65_code 1 = .ok (.iload_n 1, 1) := by decide +kernel
theorem d1_2 : decode jdk_29_method_65_code 2 = .ok (.if_icmp .lt 7, 3) := by decide +kernel
theorem d1_5 : decode jdk_29_method_65_code 5 = .ok (.iload_n 0, 1) := by decide +kernel
theorem d1_6 : decode jdk_29_method_65_code 6 = .ok (.goto 4, 3) := by decide +kernel
theorem d1_9 : decode jdk_29_method_65_code 9 = .ok (.iload_n 1, 1) := by decide +kernel
theorem d1_10 : decode jdk_29_method_65_code 10 = .ok (.ireturn, 1) := by decide +kernel
abbrev b1 : oBd := (⟨"java/lang/Math", "max", "(II)I"⟩, jdk_29_method_65_code, 2, (some .int), { frames := 0, cells := 0, slots := 0, locals := 0 })
theorem pd1 : parseMethodDescriptor "(II)I" = some ⟨[.int, .int], some .int⟩ := by decide +kernel
theorem pn1 : plainFor b1.y = true := Jvm.Free.JP.mathPlain rfl (by decide +kernel)
theorem d2_0 : decode prog_89_method_1_code 0 = .ok (.aload_n 0, 1) := by decide +kernel
theorem d2_1 : decode prog_89_method_1_code 1 = .ok (.invokespecial 1, 3) := by decide +kernel
theorem d2_4 : decode prog_89_method_1_code 4 = .ok (.aload_n 0, 1) := by decide +kernel
theorem d2_5 : decode prog_89_method_1_code 5 = .ok (.iload_n 1, 1) := by decide +kernel
theorem d2_6 : decode prog_89_method_1_code 6 = .ok (.ifCond .ne 7, 3) := by decide +kernel
theorem d2_9 : decode prog_89_method_1_code 9 = .ok (.iconst 1, 1) := by decide +kernel
theorem d2_10 : decode prog_89_method_1_code 10 = .ok (.goto 4, 3) := by decide +kernel
theorem d2_13 : decode prog_89_method_1_code 13 = .ok (.iconst 0, 1) := by decide +kernel
theorem d2_14 : decode prog_89_method_1_code 14 = .ok (.putfield 7, 3) := by decide +kernel
theorem d2_17 : decode prog_89_method_1_code 17 = .ok (.aload_n 0, 1) := by decide +kernel
theorem d2_18 : decode prog_89_method_1_code 18 = .ok (.iload_n 1, 1) := by decide +kernel
theorem d2_19 : decode prog_89_method_1_code 19 = .ok (.iconst 1, 1) := by decide +kernel
theorem d2_20 : decode prog_89_method_1_code 20 = .ok (.invokestatic 13, 3) := by decide +kernel
theorem d2_23 : decode prog_89_method_1_code 23 = .ok (.iconst 1, 1) := by decide +kernel
theorem d2_24 : decode prog_89_method_1_code 24 = .ok (.iadd, 1) := by decide +kernel
theorem d2_25 : decode prog_89_method_1_code 25 = .ok (.bipush 16, 2) := by decide +kernel
theorem d2_27 : decode prog_89_method_1_code 27 = .ok (.imul, 1) := by decide +kernel
theorem d2_28 : decode prog_89_method_1_code 28 = .ok (.newarray .long, 2) := by decide +kernel
theorem d2_30 : decode prog_89_method_1_code 30 = .ok (.putfield 19, 3) := by decide +kernel
theorem d2_33 : decode prog_89_method_1_code 33 = .ok (.return_, 1) := by decide +kernel
abbrev b2 : oBd := (⟨"com/example/tideloom/tideloom/Tally", "<init>", "(I)V"⟩, prog_89_method_1_code, 2, none, { frames := 1, cells := 1, slots := 64, locals := 16 })
theorem pd2 : parseMethodDescriptor "(I)V" = some ⟨[.int], none⟩ := by decide +kernel
theorem pn2 : plainFor b2.y = true := plainFor_of_name (by first | (simp [plainName, overriddenIn]; done) | decide +kernel)
theorem d4_0 : decode prog_89_method_2_code 0 = .ok (.iload_n 1, 1) := by decide +kernel
theorem d4_1 : decode prog_89_method_2_code 1 = .ok (.bipush 16, 2) := by decide +kernel
theorem d4_3 : decode prog_89_method_2_code 3 = .ok (.imul, 1) := by decide +kernel
theorem d4_4 : decode prog_89_method_2_code 4 = .ok (.istore_n 3, 1) := by decide +kernel
theorem d4_5 : decode prog_89_method_2_code 5 = .ok (.aload_n 0, 1) := by decide +kernel
theorem d4_6 : decode prog_89_method_2_code 6 = .ok (.getfield 19, 3) := by decide +kernel
theorem d4_9 : decode prog_89_method_2_code 9 = .ok (.iload_n 3, 1) := by decide +kernel
theorem d4_10 : decode prog_89_method_2_code 10 = .ok (.iconst 0, 1) := by decide +kernel
theorem d4_11 : decode prog_89_method_2_code 11 = .ok (.iadd, 1) := by decide +kernel
theorem d4_12 : decode prog_89_method_2_code 12 = .ok (.dup2, 1) := by decide +kernel
theorem d4_13 : decode prog_89_method_2_code 13 = .ok (.laload, 1) := by decide +kernel
theorem d4_14 : decode prog_89_method_2_code 14 = .ok (.lconst 1, 1) := by decide +kernel
theorem d4_15 : decode prog_89_method_2_code 15 = .ok (.ladd, 1) := by decide +kernel
theorem d4_16 : decode prog_89_method_2_code 16 = .ok (.lastore, 1) := by decide +kernel
theorem d4_17 : decode prog_89_method_2_code 17 = .ok (.iload_n 2, 1) := by decide +kernel
theorem d4_18 : decode prog_89_method_2_code 18 = .ok (.ifCond .eq 15, 3) := by decide +kernel
theorem d4_21 : decode prog_89_method_2_code 21 = .ok (.aload_n 0, 1) := by decide +kernel
theorem d4_22 : decode prog_89_method_2_code 22 = .ok (.getfield 19, 3) := by decide +kernel
theorem d4_25 : decode prog_89_method_2_code 25 = .ok (.iload_n 3, 1) := by decide +kernel
theorem d4_26 : decode prog_89_method_2_code 26 = .ok (.iconst 1, 1) := by decide +kernel
theorem d4_27 : decode prog_89_method_2_code 27 = .ok (.iadd, 1) := by decide +kernel
theorem d4_28 : decode prog_89_method_2_code 28 = .ok (.dup2, 1) := by decide +kernel
theorem d4_29 : decode prog_89_method_2_code 29 = .ok (.laload, 1) := by decide +kernel
theorem d4_30 : decode prog_89_method_2_code 30 = .ok (.lconst 1, 1) := by decide +kernel
theorem d4_31 : decode prog_89_method_2_code 31 = .ok (.ladd, 1) := by decide +kernel
theorem d4_32 : decode prog_89_method_2_code 32 = .ok (.lastore, 1) := by decide +kernel
theorem d4_33 : decode prog_89_method_2_code 33 = .ok (.return_, 1) := by decide +kernel
abbrev b4 : oBd := (⟨"com/example/tideloom/tideloom/Tally", "handed", "(IZ)V"⟩, prog_89_method_2_code, 4, none, { frames := 0, cells := 0, slots := 0, locals := 0 })
theorem pd4 : parseMethodDescriptor "(IZ)V" = some ⟨[.int, .boolean], none⟩ := by decide +kernel
theorem pn4 : plainFor b4.y = true := plainFor_of_name (by first | (simp [plainName, overriddenIn]; done) | decide +kernel)
theorem d5_0 : decode prog_89_method_3_code 0 = .ok (.iload_n 1, 1) := by decide +kernel
theorem d5_1 : decode prog_89_method_3_code 1 = .ok (.bipush 16, 2) := by decide +kernel
theorem d5_3 : decode prog_89_method_3_code 3 = .ok (.imul, 1) := by decide +kernel
theorem d5_4 : decode prog_89_method_3_code 4 = .ok (.istore_n 3, 1) := by decide +kernel
theorem d5_5 : decode prog_89_method_3_code 5 = .ok (.aload_n 0, 1) := by decide +kernel
theorem d5_6 : decode prog_89_method_3_code 6 = .ok (.getfield 19, 3) := by decide +kernel
theorem d5_9 : decode prog_89_method_3_code 9 = .ok (.iload_n 3, 1) := by decide +kernel
theorem d5_10 : decode prog_89_method_3_code 10 = .ok (.iconst 0, 1) := by decide +kernel
theorem d5_11 : decode prog_89_method_3_code 11 = .ok (.iadd, 1) := by decide +kernel
theorem d5_12 : decode prog_89_method_3_code 12 = .ok (.dup2, 1) := by decide +kernel
theorem d5_13 : decode prog_89_method_3_code 13 = .ok (.laload, 1) := by decide +kernel
theorem d5_14 : decode prog_89_method_3_code 14 = .ok (.lconst 1, 1) := by decide +kernel
theorem d5_15 : decode prog_89_method_3_code 15 = .ok (.lsub, 1) := by decide +kernel
theorem d5_16 : decode prog_89_method_3_code 16 = .ok (.lastore, 1) := by decide +kernel
theorem d5_17 : decode prog_89_method_3_code 17 = .ok (.iload_n 2, 1) := by decide +kernel
theorem d5_18 : decode prog_89_method_3_code 18 = .ok (.ifCond .eq 15, 3) := by decide +kernel
theorem d5_21 : decode prog_89_method_3_code 21 = .ok (.aload_n 0, 1) := by decide +kernel
theorem d5_22 : decode prog_89_method_3_code 22 = .ok (.getfield 19, 3) := by decide +kernel
theorem d5_25 : decode prog_89_method_3_code 25 = .ok (.iload_n 3, 1) := by decide +kernel
theorem d5_26 : decode prog_89_method_3_code 26 = .ok (.iconst 1, 1) := by decide +kernel
theorem d5_27 : decode prog_89_method_3_code 27 = .ok (.iadd, 1) := by decide +kernel
theorem d5_28 : decode prog_89_method_3_code 28 = .ok (.dup2, 1) := by decide +kernel
theorem d5_29 : decode prog_89_method_3_code 29 = .ok (.laload, 1) := by decide +kernel
theorem d5_30 : decode prog_89_method_3_code 30 = .ok (.lconst 1, 1) := by decide +kernel
theorem d5_31 : decode prog_89_method_3_code 31 = .ok (.lsub, 1) := by decide +kernel
theorem d5_32 : decode prog_89_method_3_code 32 = .ok (.lastore, 1) := by decide +kernel
theorem d5_33 : decode prog_89_method_3_code 33 = .ok (.return_, 1) := by decide +kernel
abbrev b5 : oBd := (⟨"com/example/tideloom/tideloom/Tally", "takenBack", "(IZ)V"⟩, prog_89_method_3_code, 4, none, { frames := 0, cells := 0, slots := 0, locals := 0 })
theorem pd5 : parseMethodDescriptor "(IZ)V" = some ⟨[.int, .boolean], none⟩ := by decide +kernel
theorem pn5 : plainFor b5.y = true := plainFor_of_name (by first | (simp [plainName, overriddenIn]; done) | decide +kernel)
theorem d6_0 : decode prog_89_method_4_code 0 = .ok (.aload_n 0, 1) := by decide +kernel
theorem d6_1 : decode prog_89_method_4_code 1 = .ok (.getfield 19, 3) := by decide +kernel
theorem d6_4 : decode prog_89_method_4_code 4 = .ok (.iconst 1, 1) := by decide +kernel
theorem d6_5 : decode prog_89_method_4_code 5 = .ok (.dup2, 1) := by decide +kernel
theorem d6_6 : decode prog_89_method_4_code 6 = .ok (.laload, 1) := by decide +kernel
theorem d6_7 : decode prog_89_method_4_code 7 = .ok (.iload_n 1, 1) := by decide +kernel
theorem d6_8 : decode prog_89_method_4_code 8 = .ok (.i2l, 1) := by decide +kernel
theorem d6_9 : decode prog_89_method_4_code 9 = .ok (.ladd, 1) := by decide +kernel
theorem d6_10 : decode prog_89_method_4_code 10 = .ok (.lastore, 1) := by decide +kernel
theorem d6_11 : decode prog_89_method_4_code 11 = .ok (.return_, 1) := by decide +kernel
abbrev b6 : oBd := (⟨"com/example/tideloom/tideloom/Tally", "waited", "(I)V"⟩, prog_89_method_4_code, 2, none, { frames := 0, cells := 0, slots := 0, locals := 0 })
theorem pd6 : parseMethodDescriptor "(I)V" = some ⟨[.int], none⟩ := by decide +kernel
theorem pn6 : plainFor b6.y = true := plainFor_of_name (by first | (simp [plainName, overriddenIn]; done) | decide +kernel)
theorem d7_0 : decode prog_89_method_5_code 0 = .ok (.aload_n 0, 1) := by decide +kernel
theorem d7_1 : decode prog_89_method_5_code 1 = .ok (.getfield 19, 3) := by decide +kernel
theorem d7_4 : decode prog_89_method_5_code 4 = .ok (.iload_n 1, 1) := by decide +kernel
theorem d7_5 : decode prog_89_method_5_code 5 = .ok (.bipush 16, 2) := by decide +kernel
theorem d7_7 : decode prog_89_method_5_code 7 = .ok (.imul, 1) := by decide +kernel
theorem d7_8 : decode prog_89_method_5_code 8 = .ok (.iconst 2, 1) := by decide +kernel
theorem d7_9 : decode prog_89_method_5_code 9 = .ok (.iadd, 1) := by decide +kernel
theorem d7_10 : decode prog_89_method_5_code 10 = .ok (.dup2, 1) := by decide +kernel
theorem d7_11 : decode prog_89_method_5_code 11 = .ok (.laload, 1) := by decide +kernel
theorem d7_12 : decode prog_89_method_5_code 12 = .ok (.lconst 1, 1) := by decide +kernel
theorem d7_13 : decode prog_89_method_5_code 13 = .ok (.ladd, 1) := by decide +kernel
theorem d7_14 : decode prog_89_method_5_code 14 = .ok (.lastore, 1) := by decide +kernel
theorem d7_15 : decode prog_89_method_5_code 15 = .ok (.return_, 1) := by decide +kernel
abbrev b7 : oBd := (⟨"com/example/tideloom/tideloom/Tally", "putOff", "(I)V"⟩, prog_89_method_5_code, 2, none, { frames := 0, cells := 0, slots := 0, locals := 0 })
theorem pd7 : parseMethodDescriptor "(I)V" = some ⟨[.int], none⟩ := by decide +kernel
theorem pn7 : plainFor b7.y = true := plainFor_of_name (by first | (simp [plainName, overriddenIn]; done) | decide +kernel)
theorem d8_0 : decode prog_89_method_7_code 0 = .ok (.aload_n 0, 1) := by decide +kernel
theorem d8_1 : decode prog_89_method_7_code 1 = .ok (.getfield 19, 3) := by decide +kernel
theorem d8_4 : decode prog_89_method_7_code 4 = .ok (.iload_n 1, 1) := by decide +kernel
theorem d8_5 : decode prog_89_method_7_code 5 = .ok (.iconst (-1), 1) := by decide +kernel
theorem d8_6 : decode prog_89_method_7_code 6 = .ok (.if_icmp .ne 7, 3) := by decide +kernel
theorem d8_9 : decode prog_89_method_7_code 9 = .ok (.iconst 0, 1) := by decide +kernel
theorem d8_10 : decode prog_89_method_7_code 10 = .ok (.goto 8, 3) := by decide +kernel
theorem d8_13 : decode prog_89_method_7_code 13 = .ok (.aload_n 0, 1) := by decide +kernel
theorem d8_14 : decode prog_89_method_7_code 14 = .ok (.iload_n 1, 1) := by decide +kernel
theorem d8_15 : decode prog_89_method_7_code 15 = .ok (.invokevirtual 23, 3) := by decide +kernel
theorem d8_18 : decode prog_89_method_7_code 18 = .ok (.bipush 16, 2) := by decide +kernel
theorem d8_20 : decode prog_89_method_7_code 20 = .ok (.imul, 1) := by decide +kernel
theorem d8_21 : decode prog_89_method_7_code 21 = .ok (.iconst 4, 1) := by decide +kernel
theorem d8_22 : decode prog_89_method_7_code 22 = .ok (.iadd, 1) := by decide +kernel
theorem d8_23 : decode prog_89_method_7_code 23 = .ok (.dup2, 1) := by decide +kernel
theorem d8_24 : decode prog_89_method_7_code 24 = .ok (.laload, 1) := by decide +kernel
theorem d8_25 : decode prog_89_method_7_code 25 = .ok (.iload_n 2, 1) := by decide +kernel
theorem d8_26 : decode prog_89_method_7_code 26 = .ok (.i2l, 1) := by decide +kernel
theorem d8_27 : decode prog_89_method_7_code 27 = .ok (.ladd, 1) := by decide +kernel
theorem d8_28 : decode prog_89_method_7_code 28 = .ok (.lastore, 1) := by decide +kernel
theorem d8_29 : decode prog_89_method_7_code 29 = .ok (.return_, 1) := by decide +kernel
abbrev b8 : oBd := (⟨"com/example/tideloom/tideloom/Tally", "ran", "(II)V"⟩, prog_89_method_7_code, 3, none, { frames := 1, cells := 0, slots := 0, locals := 14 })
theorem pd8 : parseMethodDescriptor "(II)V" = some ⟨[.int, .int], none⟩ := by decide +kernel
theorem pn8 : plainFor b8.y = true := plainFor_of_name (by first | (simp [plainName, overriddenIn]; done) | decide +kernel)
theorem d9_0 : decode prog_89_method_9_code 0 = .ok (.aload_n 0, 1) := by decide +kernel
theorem d9_1 : decode prog_89_method_9_code 1 = .ok (.getfield 7, 3) := by decide +kernel
theorem d9_4 : decode prog_89_method_9_code 4 = .ok (.ifCond .eq 7, 3) := by decide +kernel
theorem d9_7 : decode prog_89_method_9_code 7 = .ok (.iconst 1, 1) := by decide +kernel
theorem d9_8 : decode prog_89_method_9_code 8 = .ok (.goto 4, 3) := by decide +kernel
theorem d9_11 : decode prog_89_method_9_code 11 = .ok (.iload_n 1, 1) := by decide +kernel
theorem d9_12 : decode prog_89_method_9_code 12 = .ok (.ireturn, 1) := by decide +kernel
abbrev b9 : oBd := (⟨"com/example/tideloom/tideloom/Tally", "slotOf", "(I)I"⟩, prog_89_method_9_code, 2, (some .int), { frames := 0, cells := 0, slots := 0, locals := 0 })
theorem pd9 : parseMethodDescriptor "(I)I" = some ⟨[.int], some .int⟩ := by decide +kernel
theorem pn9 : plainFor b9.y = true := plainFor_of_name (by first | (simp [plainName, overriddenIn]; done) | decide +kernel)
theorem d10_0 : decode prog_89_method_10_code 0 = .ok (.bipush 7, 2) := by decide +kernel
theorem d10_2 : decode prog_89_method_10_code 2 = .ok (.newarray .long, 2) := by decide +kernel
theorem d10_4 : decode prog_89_method_10_code 4 = .ok (.astore_n 3, 1) := by decide +kernel
theorem d10_5 : decode prog_89_method_10_code 5 = .ok (.iconst 0, 1) := by decide +kernel
theorem d10_6 : decode prog_89_method_10_code 6 = .ok (.istore 4, 2) := by decide +kernel
theorem d10_8 : decode prog_89_method_10_code 8 = .ok (.iload 4, 2) := by decide +kernel
theorem d10_10 : decode prog_89_method_10_code 10 = .ok (.aload_n 0, 1) := by decide +kernel
theorem d10_11 : decode prog_89_method_10_code 11 = .ok (.getfield 19, 3) := by decide +kernel
theorem d10_14 : decode prog_89_method_10_code 14 = .ok (.arraylength, 1) := by decide +kernel
theorem d10_15 : decode prog_89_method_10_code 15 = .ok (.if_icmp .ge 42, 3) := by decide +kernel
theorem d10_18 : decode prog_89_method_10_code 18 = .ok (.iconst 0, 1) := by decide +kernel
theorem d10_19 : decode prog_89_method_10_code 19 = .ok (.istore 5, 2) := by decide +kernel
theorem d10_21 : decode prog_89_method_10_code 21 = .ok (.iload 5, 2) := by decide +kernel
theorem d10_23 : decode prog_89_method_10_code 23 = .ok (.bipush 6, 2) := by decide +kernel
theorem d10_25 : decode prog_89_method_10_code 25 = .ok (.if_icmp .gt 26, 3) := by decide +kernel
theorem d10_28 : decode prog_89_method_10_code 28 = .ok (.aload_n 3, 1) := by decide +kernel
theorem d10_29 : decode prog_89_method_10_code 29 = .ok (.iload 5, 2) := by decide +kernel
theorem d10_31 : decode prog_89_method_10_code 31 = .ok (.dup2, 1) := by decide +kernel
theorem d10_32 : decode prog_89_method_10_code 32 = .ok (.laload, 1) := by decide +kernel
theorem d10_33 : decode prog_89_method_10_code 33 = .ok (.aload_n 0, 1) := by decide +kernel
theorem d10_34 : decode prog_89_method_10_code 34 = .ok (.getfield 19, 3) := by decide +kernel
theorem d10_37 : decode prog_89_method_10_code 37 = .ok (.iload 4, 2) := by decide +kernel
theorem d10_39 : decode prog_89_method_10_code 39 = .ok (.iload 5, 2) := by decide +kernel
theorem d10_41 : decode prog_89_method_10_code 41 = .ok (.iadd, 1) := by decide +kernel
theorem d10_42 : decode prog_89_method_10_code 42 = .ok (.laload, 1) := by decide +kernel
theorem d10_43 : decode prog_89_method_10_code 43 = .ok (.ladd, 1) := by decide +kernel
theorem d10_44 : decode prog_89_method_10_code 44 = .ok (.lastore, 1) := by decide +kernel
theorem d10_45 : decode prog_89_method_10_code 45 = .ok (.iinc 5 1, 3) := by decide +kernel
theorem d10_48 : decode prog_89_method_10_code 48 = .ok (.goto (-27), 3) := by decide +kernel
theorem d10_51 : decode prog_89_method_10_code 51 = .ok (.iinc 4 16, 3) := by decide +kernel
theorem d10_54 : decode prog_89_method_10_code 54 = .ok (.goto (-46), 3) := by decide +kernel
theorem d10_57 : decode prog_89_method_10_code 57 = .ok (.iconst 5, 1) := by decide +kernel
theorem d10_58 : decode prog_89_method_10_code 58 = .ok (.newarray .long, 2) := by decide +kernel
theorem d10_60 : decode prog_89_method_10_code 60 = .ok (.astore 4, 2) := by decide +kernel
theorem d10_62 : decode prog_89_method_10_code 62 = .ok (.aload 4, 2) := by decide +kernel
theorem d10_64 : decode prog_89_method_10_code 64 = .ok (.iconst 0, 1) := by decide +kernel
theorem d10_65 : decode prog_89_method_10_code 65 = .ok (.lload_n 1, 1) := by decide +kernel
theorem d10_66 : decode prog_89_method_10_code 66 = .ok (.aload_n 3, 1) := by decide +kernel
theorem d10_67 : decode prog_89_method_10_code 67 = .ok (.iconst 2, 1) := by decide +kernel
theorem d10_68 : decode prog_89_method_10_code 68 = .ok (.laload, 1) := by decide +kernel
theorem d10_69 : decode prog_89_method_10_code 69 = .ok (.ladd, 1) := by decide +kernel
theorem d10_70 : decode prog_89_method_10_code 70 = .ok (.aload_n 3, 1) := by decide +kernel
theorem d10_71 : decode prog_89_method_10_code 71 = .ok (.iconst 1, 1) := by decide +kernel
theorem d10_72 : decode prog_89_method_10_code 72 = .ok (.laload, 1) := by decide +kernel
theorem d10_73 : decode prog_89_method_10_code 73 = .ok (.lsub, 1) := by decide +kernel
theorem d10_74 : decode prog_89_method_10_code 74 = .ok (.lastore, 1) := by decide +kernel
theorem d10_75 : decode prog_89_method_10_code 75 = .ok (.aload 4, 2) := by decide +kernel
theorem d10_77 : decode prog_89_method_10_code 77 = .ok (.iconst 1, 1) := by decide +kernel
theorem d10_78 : decode prog_89_method_10_code 78 = .ok (.aload_n 3, 1) := by decide +kernel
theorem d10_79 : decode prog_89_method_10_code 79 = .ok (.iconst 0, 1) := by decide +kernel
theorem d10_80 : decode prog_89_method_10_code 80 = .ok (.laload, 1) := by decide +kernel
theorem d10_81 : decode prog_89_method_10_code 81 = .ok (.aload_n 3, 1) := by decide +kernel
theorem d10_82 : decode prog_89_method_10_code 82 = .ok (.iconst 3, 1) := by decide +kernel
theorem d10_83 : decode prog_89_method_10_code 83 = .ok (.laload, 1) := by decide +kernel
theorem d10_84 : decode prog_89_method_10_code 84 = .ok (.lsub, 1) := by decide +kernel
theorem d10_85 : decode prog_89_method_10_code 85 = .ok (.aload_n 3, 1) := by decide +kernel
theorem d10_86 : decode prog_89_method_10_code 86 = .ok (.iconst 5, 1) := by decide +kernel
theorem d10_87 : decode prog_89_method_10_code 87 = .ok (.laload, 1) := by decide +kernel
theorem d10_88 : decode prog_89_method_10_code 88 = .ok (.lsub, 1) := by decide +kernel
theorem d10_89 : decode prog_89_method_10_code 89 = .ok (.lastore, 1) := by decide +kernel
theorem d10_90 : decode prog_89_method_10_code 90 = .ok (.aload 4, 2) := by decide +kernel
theorem d10_92 : decode prog_89_method_10_code 92 = .ok (.iconst 2, 1) := by decide +kernel
theorem d10_93 : decode prog_89_method_10_code 93 = .ok (.aload_n 3, 1) := by decide +kernel
theorem d10_94 : decode prog_89_method_10_code 94 = .ok (.iconst 3, 1) := by decide +kernel
theorem d10_95 : decode prog_89_method_10_code 95 = .ok (.laload, 1) := by decide +kernel
theorem d10_96 : decode prog_89_method_10_code 96 = .ok (.aload_n 3, 1) := by decide +kernel
theorem d10_97 : decode prog_89_method_10_code 97 = .ok (.iconst 4, 1) := by decide +kernel
theorem d10_98 : decode prog_89_method_10_code 98 = .ok (.laload, 1) := by decide +kernel
theorem d10_99 : decode prog_89_method_10_code 99 = .ok (.lsub, 1) := by decide +kernel
theorem d10_100 : decode prog_89_method_10_code 100 = .ok (.lastore, 1) := by decide +kernel
theorem d10_101 : decode prog_89_method_10_code 101 = .ok (.aload 4, 2) := by decide +kernel
theorem d10_103 : decode prog_89_method_10_code 103 = .ok (.iconst 3, 1) := by decide +kernel
theorem d10_104 : decode prog_89_method_10_code 104 = .ok (.aload_n 3, 1) := by decide +kernel
theorem d10_105 : decode prog_89_method_10_code 105 = .ok (.iconst 4, 1) := by decide +kernel
theorem d10_106 : decode prog_89_method_10_code 106 = .ok (.laload, 1) := by decide +kernel
theorem d10_107 : decode prog_89_method_10_code 107 = .ok (.aload_n 3, 1) := by decide +kernel
theorem d10_108 : decode prog_89_method_10_code 108 = .ok (.iconst 5, 1) := by decide +kernel
theorem d10_109 : decode prog_89_method_10_code 109 = .ok (.laload, 1) := by decide +kernel
theorem d10_110 : decode prog_89_method_10_code 110 = .ok (.ladd, 1) := by decide +kernel
theorem d10_111 : decode prog_89_method_10_code 111 = .ok (.lastore, 1) := by decide +kernel
theorem d10_112 : decode prog_89_method_10_code 112 = .ok (.aload 4, 2) := by decide +kernel
theorem d10_114 : decode prog_89_method_10_code 114 = .ok (.iconst 4, 1) := by decide +kernel
theorem d10_115 : decode prog_89_method_10_code 115 = .ok (.aload_n 3, 1) := by decide +kernel
theorem d10_116 : decode prog_89_method_10_code 116 = .ok (.bipush 6, 2) := by decide +kernel
theorem d10_118 : decode prog_89_method_10_code 118 = .ok (.laload, 1) := by decide +kernel
theorem d10_119 : decode prog_89_method_10_code 119 = .ok (.lastore, 1) := by decide +kernel
theorem d10_120 : decode prog_89_method_10_code 120 = .ok (.aload 4, 2) := by decide +kernel
theorem d10_122 : decode prog_89_method_10_code 122 = .ok (.areturn, 1) := by decide +kernel
abbrev b10 : oBd := (⟨"com/example/tideloom/tideloom/Tally", "read", "(J)[J"⟩, prog_89_method_10_code, 6, (some (.array .long)), { frames := 0, cells := 2, slots := 12, locals := 0 })
theorem pd10 : parseMethodDescriptor "(J)[J" = some ⟨[.long], some (.array .long)⟩ := by decide +kernel
theorem pn10 : plainFor b10.y = true := plainFor_of_name (by first | (simp [plainName, overriddenIn]; done) | decide +kernel)
theorem d11_0 : decode prog_89_method_6_code 0 = .ok (.aload_n 0, 1) := by decide +kernel
theorem d11_1 : decode prog_89_method_6_code 1 = .ok (.iload_n 1, 1) := by decide +kernel
theorem d11_2 : decode prog_89_method_6_code 2 = .ok (.invokevirtual 23, 3) := by decide +kernel
theorem d11_5 : decode prog_89_method_6_code 5 = .ok (.bipush 16, 2) := by decide +kernel
theorem d11_7 : decode prog_89_method_6_code 7 = .ok (.imul, 1) := by decide +kernel
theorem d11_8 : decode prog_89_method_6_code 8 = .ok (.istore_n 3, 1) := by decide +kernel
theorem d11_9 : decode prog_89_method_6_code 9 = .ok (.aload_n 0, 1) := by decide +kernel
theorem d11_10 : decode prog_89_method_6_code 10 = .ok (.getfield 19, 3) := by decide +kernel
theorem d11_13 : decode prog_89_method_6_code 13 = .ok (.iload_n 3, 1) := by decide +kernel
theorem d11_14 : decode prog_89_method_6_code 14 = .ok (.iconst 3, 1) := by decide +kernel
theorem d11_15 : decode prog_89_method_6_code 15 = .ok (.iadd, 1) := by decide +kernel
theorem d11_16 : decode prog_89_method_6_code 16 = .ok (.dup2, 1) := by decide +kernel
theorem d11_17 : decode prog_89_method_6_code 17 = .ok (.laload, 1) := by decide +kernel
theorem d11_18 : decode prog_89_method_6_code 18 = .ok (.lconst 1, 1) := by decide +kernel
theorem d11_19 : decode prog_89_method_6_code 19 = .ok (.ladd, 1) := by decide +kernel
theorem d11_20 : decode prog_89_method_6_code 20 = .ok (.lastore, 1) := by decide +kernel
theorem d11_21 : decode prog_89_method_6_code 21 = .ok (.iload_n 2, 1) := by decide +kernel
theorem d11_22 : decode prog_89_method_6_code 22 = .ok (.ifCond .eq 21, 3) := by decide +kernel
theorem d11_25 : decode prog_89_method_6_code 25 = .ok (.iload_n 2, 1) := by decide +kernel
theorem d11_26 : decode prog_89_method_6_code 26 = .ok (.iload_n 1, 1) := by decide +kernel
theorem d11_27 : decode prog_89_method_6_code 27 = .ok (.if_icmp .eq 16, 3) := by decide +kernel
theorem d11_30 : decode prog_89_method_6_code 30 = .ok (.aload_n 0, 1) := by decide +kernel
theorem d11_31 : decode prog_89_method_6_code 31 = .ok (.getfield 19, 3) := by decide +kernel
theorem d11_34 : decode prog_89_method_6_code 34 = .ok (.iload_n 3, 1) := by decide +kernel
theorem d11_35 : decode prog_89_method_6_code 35 = .ok (.bipush 6, 2) := by decide +kernel
theorem d11_37 : decode prog_89_method_6_code 37 = .ok (.iadd, 1) := by decide +kernel
theorem d11_38 : decode prog_89_method_6_code 38 = .ok (.dup2, 1) := by decide +kernel
theorem d11_39 : decode prog_89_method_6_code 39 = .ok (.laload, 1) := by decide +kernel
theorem d11_40 : decode prog_89_method_6_code 40 = .ok (.lconst 1, 1) := by decide +kernel
theorem d11_41 : decode prog_89_method_6_code 41 = .ok (.ladd, 1) := by decide +kernel
theorem d11_42 : decode prog_89_method_6_code 42 = .ok (.lastore, 1) := by decide +kernel
theorem d11_43 : decode prog_89_method_6_code 43 = .ok (.return_, 1) := by decide +kernel
abbrev b11 : oBd := (⟨"com/example/tideloom/tideloom/Tally", "started", "(II)V"⟩, prog_89_method_6_code, 4, none, { frames := 1, cells := 0, slots := 0, locals := 13 })
theorem pd11 : parseMethodDescriptor "(II)V" = some ⟨[.int, .int], none⟩ := by decide +kernel
theorem pn11 : plainFor b11.y = true := plainFor_of_name (by first | (simp [plainName, overriddenIn]; done) | decide +kernel)
theorem d12_0 : decode prog_89_method_8_code 0 = .ok (.aload_n 0, 1) := by decide +kernel
theorem d12_1 : decode prog_89_method_8_code 1 = .ok (.getfield 19, 3) := by decide +kernel
theorem d12_4 : decode prog_89_method_8_code 4 = .ok (.iload_n 1, 1) := by decide +kernel
theorem d12_5 : decode prog_89_method_8_code 5 = .ok (.bipush 16, 2) := by decide +kernel
theorem d12_7 : decode prog_89_method_8_code 7 = .ok (.imul, 1) := by decide +kernel
theorem d12_8 : decode prog_89_method_8_code 8 = .ok (.iconst 5, 1) := by decide +kernel
theorem d12_9 : decode prog_89_method_8_code 9 = .ok (.iadd, 1) := by decide +kernel
theorem d12_10 : decode prog_89_method_8_code 10 = .ok (.dup2, 1) := by decide +kernel
theorem d12_11 : decode prog_89_method_8_code 11 = .ok (.laload, 1) := by decide +kernel
theorem d12_12 : decode prog_89_method_8_code 12 = .ok (.lconst 1, 1) := by decide +kernel
theorem d12_13 : decode prog_89_method_8_code 13 = .ok (.ladd, 1) := by decide +kernel
theorem d12_14 : decode prog_89_method_8_code 14 = .ok (.lastore, 1) := by decide +kernel
theorem d12_15 : decode prog_89_method_8_code 15 = .ok (.return_, 1) := by decide +kernel
abbrev b12 : oBd := (⟨"com/example/tideloom/tideloom/Tally", "dropped", "(I)V"⟩, prog_89_method_8_code, 2, none, { frames := 0, cells := 0, slots := 0, locals := 0 })
theorem pd12 : parseMethodDescriptor "(I)V" = some ⟨[.int], none⟩ := by decide +kernel
theorem pn12 : plainFor b12.y = true := plainFor_of_name (by first | (simp [plainName, overriddenIn]; done) | decide +kernel)
abbrev b0 : oBd := (x, code, maxLocals, ret, room_1)
theorem pd0 : parseMethodDescriptor "(IIIJII)Z" = some ⟨[.int, .int, .int, .long, .int, .int], some .boolean⟩ := by decide +kernel
theorem pn0 : plainFor b0.y = true := plainFor_of_name (by first | (simp [plainName, overriddenIn]; done) | decide +kernel)
set_option maxRecDepth 65536 in
set_option maxHeartbeats 40000000 in
theorem rm1 (l : Launch) (Z : State) (a0 : Array Value) (hw : ∀ d ∈ tables_1, d.before a0 Z = true) (x y : Int32) (h0 : Heap) (n0 : Nat) :
    oMet l b1 [] Z n0 #[.int x, .int y] h0 (fun v h' => v = some (.int (if x < y then y else x)) ∧ h' = h0) := by
  refine o_enter pn1 (Ls := #[.val (.int x), .val (.int y)]) (fun m => by first | (simp [entryFrame, mkF, argsToLocals, Value.category, oBd.maxL, b1]; done) | rfl) ?_
  intro w T0 A0
  refine o_iloadN (q := 1) A0 d1_0 rfl rfl ?_
  refine o_iloadN (q := 2) A0 d1_1 rfl rfl ?_
  refine o_icmp (q := 9) (q' := 5) A0 d1_2 (by decide) (by decide) rfl (fun hc => ?_) (fun hc => ?_)
  · replace hc : x < y := hc
    refine o_iloadN (q := 10) A0 d1_9 rfl rfl ?_
    exact o_retI A0 rfl d1_10 (by decide) (by decide) ⟨by rw [if_pos hc], rfl⟩
  · replace hc : ¬ (x < y) := hc
    refine o_iloadN (q := 6) A0 d1_5 rfl rfl ?_
    refine o_goto (q := 10) A0 d1_6 (by decide) (by decide) ?_
    exact o_retI A0 rfl d1_10 (by decide) (by decide) ⟨by rw [if_neg hc], rfl⟩
set_option maxRecDepth 65536 in
set_option maxHeartbeats 40000000 in
theorem rm2 (l : Launch) (Z : State) (a0 : Array Value) (hw : ∀ d ∈ tables_1, d.before a0 Z = true) (t : Addr) (s : Int32) (n : Nat) (h0 : Heap) (n0 : Nat) (Z0 : n0 ≤ h0.size) (E : Exa Z h0 t "com/example/tideloom/tideloom/Tally") (F1 : Fld Z h0 t "com/example/tideloom/tideloom/Tally" "oneRunner" "Z" (.int 0)) (F2 : Fld Z h0 t "com/example/tideloom/tideloom/Tally" "counts" "[J" .null) (gt : n0 ≤ t) (hn : (if s < 1 then 1 else s).toInt + 1 = (n : Int)) (hn4 : n ≤ 4) :
    oMet l b2 [] Z n0 #[.ref t, .int s] h0 (fun v h' => v = none ∧ ∃ ca, own_TI Z n0 h' t ca (if s = 0 then 1 else 0) (16 * n) (fun _ => 0)) := by
  refine o_enter pn2 (Ls := #[.val (.ref t), .val (.int s)]) (fun m => by first | (simp [entryFrame, mkF, argsToLocals, Value.category, oBd.maxL, b2]; done) | rfl) ?_
  intro w T0 A0
  refine o_aloadN (q := 1) A0 d2_0 rfl rfl rfl ?_
  refine o_initO (q := 4) (W := 0) A0 d2_1 (hw _ (List.mem_of_getElem? (i := 10) rfl)) (hw _ (List.mem_of_getElem? (i := 11) rfl)) (hw _ (List.mem_of_getElem? (i := 12) rfl)) rfl (by decide) rfl (by decide) rfl (fun T1 A1 => ?_)
  refine o_aloadN (q := 5) A1 d2_4 rfl rfl rfl ?_
  refine o_iloadN (q := 6) A1 d2_5 rfl rfl ?_
  obtain ⟨o, ho⟩ : ∃ z : Int32, z = if s = 0 then 1 else 0 := ⟨_, rfl⟩
  suffices K : oFin w b2 n0 (fun v h' => v = none ∧ ∃ ca, own_TI Z n0 h' t ca (if s = 0 then 1 else 0) (16 * n) (fun _ => 0)) T1 14 #[.val (.ref t), .val (.int s)] [.int o, .ref t] by
    refine o_if (q := 13) (q' := 9) A1 d2_6 (by decide) (by decide) rfl (fun hc => ?_) (fun hc => ?_)
    · replace hc : s ≠ (0 : Int32) := hc
      rw [if_neg hc] at ho; subst ho
      refine o_iconst (q := 14) (z := 0) A1 d2_13 rfl rfl ?_
      exact K
    · replace hc : ¬ (s ≠ (0 : Int32)) := hc
      rw [if_pos (Classical.not_not.mp hc)] at ho; subst ho
      refine o_iconst (q := 10) (z := 1) A1 d2_9 rfl rfl ?_
      refine o_goto (q := 14) A1 d2_10 (by decide) (by decide) ?_
      exact K
  rw [← ho]
  have ho2 : narrow .boolean (.int o) = .int o ∧ fits .boolean (.int o) = true := by rw [ho]; split <;> exact ⟨rfl, rfl⟩
  refine o_putF (q := 17) A1 d2_14 (hw _ (List.mem_of_getElem? (i := 13) rfl)) F1 E (Or.inr ⟨(hw _ (List.mem_of_getElem? (i := 14) rfl)), rfl, rfl⟩) (hw _ (List.mem_of_getElem? (i := 5) rfl)) (ty := .boolean) (by decide) ho2.1 ho2.2 gt rfl (fun T2 h2 A2 W2 => ?_)
  have G2 := F2.other W2 (Or.inr (slot_ne (Or.inr (hw _ (List.mem_of_getElem? (i := 18) rfl))) (Or.inr (hw _ (List.mem_of_getElem? (i := 14) rfl))) (by decide) (t := .array .long) (t' := .boolean) (by decide) (by decide)))
  have G1 := F1.same W2
  have G0 := E.wr W2
  have Z1 : n0 ≤ h2.size := by rw [W2.size]; exact Z0
  refine o_aloadN (q := 18) A2 d2_17 rfl rfl rfl ?_
  refine o_iloadN (q := 19) A2 d2_18 rfl rfl ?_
  refine o_iconst (q := 20) (z := 1) A2 d2_19 rfl rfl ?_
  refine o_callS (q := 23) (W := 1) (k' := 0) (n' := 0) (st := [.ref t]) (argsL := [.int s, .int (1 : Int32)]) (b' := b1) A2 (rm1 l Z a0 hw s 1 h2 n0) d2_20 (hw _ (List.mem_of_getElem? (i := 15) rfl)) (hw _ (List.mem_of_getElem? (i := 1) rfl)) (hw _ (List.mem_of_getElem? (i := 2) rfl)) (hw _ (List.mem_of_getElem? (i := 3) rfl)) (by decide) pd1 rfl rfl rfl rfl rfl (by decide) (by decide) rfl rfl (by decide) (by decide) rfl (fun v3 T3 h3 A3 hQ3 => ?_)
  obtain ⟨rfl, rfl⟩ := hQ3
  show oFin _ _ _ _ T3 23 #[.val (.ref t), .val (.int s)] [.int (if s < 1 then 1 else s), .ref t]
  generalize (if s < 1 then 1 else s) = mx at hn ⊢
  show oFin _ _ _ _ T3 23 #[.val (.ref t), .val (.int s)] [.int mx, .ref t]
  refine o_iconst (q := 24) (z := 1) A3 d2_23 rfl rfl ?_
  refine o_iadd (q := 25) A3 d2_24 rfl ?_
  refine o_bipush (q := 27) (z := 16) A3 d2_25 rfl rfl ?_
  refine o_imul (q := 28) A3 d2_27 rfl ?_
  have k1 : (1 : Int32).toInt = 1 := by decide
  have hN : ((mx + 1) * 16).toInt = ((16 * n : Nat) : Int) := own_ix16 (by rw [Jvm.Kit.i32_add (by omega) (by omega), k1, hn]) (by omega)
  refine o_newarr (q := 30) (k' := 1) (n' := 64) (m := 16 * n) (cap := 64) A3 d2_28 rfl (hw _ (List.mem_of_getElem? (i := 16) rfl)) hN (by omega) (by decide) rfl rfl (by decide) (by decide) rfl rfl (fun T4 h4 ca gca A4 X4 V _ => ?_)
  refine o_putF (q := 33) A4 d2_30 (hw _ (List.mem_of_getElem? (i := 17) rfl)) (G2.ext X4) (G0.ext X4) (Or.inr ⟨(hw _ (List.mem_of_getElem? (i := 18) rfl)), rfl, rfl⟩) (hw _ (List.mem_of_getElem? (i := 5) rfl)) (ty := .array .long) (by decide) rfl rfl gt rfl (fun T5 h5 A5 W5 => ?_)
  have nt : t ≠ ca := by rw [gca]; exact Nat.ne_of_lt G0.lt
  exact o_retV A5 rfl d2_33 (by decide) (by decide) ⟨rfl, ca, (G0.ext X4).wr W5, (G1.ext X4).other W5 (Or.inr (slot_ne (Or.inr (hw _ (List.mem_of_getElem? (i := 14) rfl))) (Or.inr (hw _ (List.mem_of_getElem? (i := 18) rfl))) (by decide) (t := .boolean) (t' := .array .long) (by decide) (by decide))), (G2.ext X4).same W5, V.other W5 (Ne.symm nt), by rw [gca]; exact Z1, nt⟩
set_option maxRecDepth 65536 in
set_option maxHeartbeats 40000000 in
theorem rm4 (l : Launch) (Z : State) (a0 : Array Value) (hw : ∀ d ∈ tables_1, d.before a0 Z = true) (t ca : Addr) (s sw : Int32) (i : Nat) (o : Int32) (n : Nat) (f : Nat → Int64) (h0 : Heap) (n0 : Nat) (I : own_TI Z n0 h0 t ca o (16 * n) f) (hs : s.toInt = (i : Int)) (hi : i < n) (hn : n ≤ 4) :
    oMet l b4 [] Z n0 #[.ref t, .int s, .int sw] h0 (fun v h' => v = none ∧ own_TI Z n0 h' t ca o (16 * n) (own_upd (own_upd f (16 * i + 0) 1) (16 * i + 1) (if sw = 0 then 0 else 1))) := by
  refine o_enter pn4 (Ls := #[.val (.ref t), .val (.int s), .val (.int sw), .unset]) (fun m => by first | (simp [entryFrame, mkF, argsToLocals, Value.category, oBd.maxL, b4]; done) | rfl) ?_
  intro w T0 A0
  have j0 : (s * 16 + 0).toInt = ((16 * i : Nat) : Int) := own_ixk (own_ix16 hs (by omega)) (by omega) (j := 0) (by decide) (by decide)
  have j1 : (s * 16 + 1).toInt = ((16 * i + 1 : Nat) : Int) := own_ixk (own_ix16 hs (by omega)) (by omega) (j := 1) (by decide) (by decide)
  refine o_iloadN (q := 1) A0 d4_0 rfl rfl ?_
  refine o_bipush (q := 3) (z := 16) A0 d4_1 rfl rfl ?_
  refine o_imul (q := 4) A0 d4_3 rfl ?_
  refine o_istoreN (q := 5) (Ls' := #[.val (.ref t), .val (.int s), .val (.int sw), .val (.int (s * (16 : Int32)))]) A0 d4_4 rfl rfl ?_
  refine o_aloadN (q := 6) A0 d4_5 rfl rfl rfl ?_
  refine o_getF (q := 9) A0 d4_6 (hw _ (List.mem_of_getElem? (i := 17) rfl)) I.2.2.1 rfl (fun T1 A1 => ?_)
  refine o_iloadN (q := 10) A1 d4_9 rfl rfl ?_
  refine o_iconst (q := 11) (z := 0) A1 d4_10 rfl rfl ?_
  refine o_iadd (q := 12) A1 d4_11 rfl ?_
  refine o_dup2 (q := 13) A1 d4_12 rfl rfl rfl ?_
  refine o_laload (q := 14) (m := 16 * n) (i := 16 * i) (v := .long (f (16 * i))) A1 d4_13 I.2.2.2.1 j0 (by omega) rfl rfl ?_
  refine o_lconst (q := 15) (z := 1) A1 d4_14 rfl rfl ?_
  refine o_ladd (q := 16) A1 d4_15 rfl ?_
  refine o_lastore (q := 17) (m := 16 * n) (i := 16 * i) A1 d4_16 I.2.2.2.1 j0 (by omega) I.2.2.2.2.1 rfl (fun T3 h3 A3 W3 => ?_)
  have J := I.st (d := 1) W3 (rfl)
  refine o_iloadN (q := 18) A3 d4_17 rfl rfl ?_
  refine o_if (q := 33) (q' := 21) A3 d4_18 (by decide) (by decide) rfl (fun hc => ?_) (fun hc => ?_)
  · replace hc : sw = (0 : Int32) := hc
    exact o_retV A3 rfl d4_33 (by decide) (by decide) ⟨rfl, by rw [if_pos hc, own_upd0]; exact J⟩
  · replace hc : ¬ (sw = (0 : Int32)) := hc
    refine o_aloadN (q := 22) A3 d4_21 rfl rfl rfl ?_
    refine o_getF (q := 25) A3 d4_22 (hw _ (List.mem_of_getElem? (i := 17) rfl)) J.2.2.1 rfl (fun T4 A4 => ?_)
    refine o_iloadN (q := 26) A4 d4_25 rfl rfl ?_
    refine o_iconst (q := 27) (z := 1) A4 d4_26 rfl rfl ?_
    refine o_iadd (q := 28) A4 d4_27 rfl ?_
    refine o_dup2 (q := 29) A4 d4_28 rfl rfl rfl ?_
    refine o_laload (q := 30) (m := 16 * n) (i := 16 * i + 1) (v := .long ((own_upd f (16 * i) 1) (16 * i + 1))) A4 d4_29 J.2.2.2.1 j1 (by omega) rfl rfl ?_
    refine o_lconst (q := 31) (z := 1) A4 d4_30 rfl rfl ?_
    refine o_ladd (q := 32) A4 d4_31 rfl ?_
    refine o_lastore (q := 33) (m := 16 * n) (i := 16 * i + 1) A4 d4_32 J.2.2.2.1 j1 (by omega) J.2.2.2.2.1 rfl (fun T6 h6 A6 W6 => ?_)
    have L := J.st (d := 1) W6 (rfl)
    exact o_retV A6 rfl d4_33 (by decide) (by decide) ⟨rfl, by rw [if_neg hc]; exact L⟩
set_option maxRecDepth 65536 in
set_option maxHeartbeats 40000000 in
theorem rm5 (l : Launch) (Z : State) (a0 : Array Value) (hw : ∀ d ∈ tables_1, d.before a0 Z = true) (t ca : Addr) (s sw : Int32) (i : Nat) (o : Int32) (n : Nat) (f : Nat → Int64) (h0 : Heap) (n0 : Nat) (I : own_TI Z n0 h0 t ca o (16 * n) f) (hs : s.toInt = (i : Int)) (hi : i < n) (hn : n ≤ 4) :
    oMet l b5 [] Z n0 #[.ref t, .int s, .int sw] h0 (fun v h' => v = none ∧ own_TI Z n0 h' t ca o (16 * n) (own_upd (own_upd f (16 * i + 0) (-1)) (16 * i + 1) (if sw = 0 then 0 else (-1)))) := by
  refine o_enter pn5 (Ls := #[.val (.ref t), .val (.int s), .val (.int sw), .unset]) (fun m => by first | (simp [entryFrame, mkF, argsToLocals, Value.category, oBd.maxL, b5]; done) | rfl) ?_
  intro w T0 A0
  have j0 : (s * 16 + 0).toInt = ((16 * i : Nat) : Int) := own_ixk (own_ix16 hs (by omega)) (by omega) (j := 0) (by decide) (by decide)
  have j1 : (s * 16 + 1).toInt = ((16 * i + 1 : Nat) : Int) := own_ixk (own_ix16 hs (by omega)) (by omega) (j := 1) (by decide) (by decide)
  refine o_iloadN (q := 1) A0 d5_0 rfl rfl ?_
  refine o_bipush (q := 3) (z := 16) A0 d5_1 rfl rfl ?_
  refine o_imul (q := 4) A0 d5_3 rfl ?_
  refine o_istoreN (q := 5) (Ls' := #[.val (.ref t), .val (.int s), .val (.int sw), .val (.int (s * (16 : Int32)))]) A0 d5_4 rfl rfl ?_
  refine o_aloadN (q := 6) A0 d5_5 rfl rfl rfl ?_
  refine o_getF (q := 9) A0 d5_6 (hw _ (List.mem_of_getElem? (i := 17) rfl)) I.2.2.1 rfl (fun T1 A1 => ?_)
  refine o_iloadN (q := 10) A1 d5_9 rfl rfl ?_
  refine o_iconst (q := 11) (z := 0) A1 d5_10 rfl rfl ?_
  refine o_iadd (q := 12) A1 d5_11 rfl ?_
  refine o_dup2 (q := 13) A1 d5_12 rfl rfl rfl ?_
  refine o_laload (q := 14) (m := 16 * n) (i := 16 * i) (v := .long (f (16 * i))) A1 d5_13 I.2.2.2.1 j0 (by omega) rfl rfl ?_
  refine o_lconst (q := 15) (z := 1) A1 d5_14 rfl rfl ?_
  refine o_lsub (q := 16) A1 d5_15 rfl ?_
  refine o_lastore (q := 17) (m := 16 * n) (i := 16 * i) A1 d5_16 I.2.2.2.1 j0 (by omega) I.2.2.2.2.1 rfl (fun T3 h3 A3 W3 => ?_)
  have J := I.st (d := (-1)) W3 (Int64.sub_eq_add_neg _ _)
  refine o_iloadN (q := 18) A3 d5_17 rfl rfl ?_
  refine o_if (q := 33) (q' := 21) A3 d5_18 (by decide) (by decide) rfl (fun hc => ?_) (fun hc => ?_)
  · replace hc : sw = (0 : Int32) := hc
    exact o_retV A3 rfl d5_33 (by decide) (by decide) ⟨rfl, by rw [if_pos hc, own_upd0]; exact J⟩
  · replace hc : ¬ (sw = (0 : Int32)) := hc
    refine o_aloadN (q := 22) A3 d5_21 rfl rfl rfl ?_
    refine o_getF (q := 25) A3 d5_22 (hw _ (List.mem_of_getElem? (i := 17) rfl)) J.2.2.1 rfl (fun T4 A4 => ?_)
    refine o_iloadN (q := 26) A4 d5_25 rfl rfl ?_
    refine o_iconst (q := 27) (z := 1) A4 d5_26 rfl rfl ?_
    refine o_iadd (q := 28) A4 d5_27 rfl ?_
    refine o_dup2 (q := 29) A4 d5_28 rfl rfl rfl ?_
    refine o_laload (q := 30) (m := 16 * n) (i := 16 * i + 1) (v := .long ((own_upd f (16 * i) (-1)) (16 * i + 1))) A4 d5_29 J.2.2.2.1 j1 (by omega) rfl rfl ?_
    refine o_lconst (q := 31) (z := 1) A4 d5_30 rfl rfl ?_
    refine o_lsub (q := 32) A4 d5_31 rfl ?_
    refine o_lastore (q := 33) (m := 16 * n) (i := 16 * i + 1) A4 d5_32 J.2.2.2.1 j1 (by omega) J.2.2.2.2.1 rfl (fun T6 h6 A6 W6 => ?_)
    have L := J.st (d := (-1)) W6 (Int64.sub_eq_add_neg _ _)
    exact o_retV A6 rfl d5_33 (by decide) (by decide) ⟨rfl, by rw [if_neg hc]; exact L⟩
set_option maxRecDepth 65536 in
set_option maxHeartbeats 40000000 in
theorem rm6 (l : Launch) (Z : State) (a0 : Array Value) (hw : ∀ d ∈ tables_1, d.before a0 Z = true) (t ca : Addr) (c : Int32) (o : Int32) (n : Nat) (f : Nat → Int64) (h0 : Heap) (n0 : Nat) (I : own_TI Z n0 h0 t ca o (16 * n) f) (hn : 1 ≤ n) :
    oMet l b6 [] Z n0 #[.ref t, .int c] h0 (fun v h' => v = none ∧ own_TI Z n0 h' t ca o (16 * n) (own_upd f (16 * 0 + 1) c.toInt64)) := by
  refine o_enter pn6 (Ls := #[.val (.ref t), .val (.int c)]) (fun m => by first | (simp [entryFrame, mkF, argsToLocals, Value.category, oBd.maxL, b6]; done) | rfl) ?_
  intro w T0 A0
  refine o_aloadN (q := 1) A0 d6_0 rfl rfl rfl ?_
  refine o_getF (q := 4) A0 d6_1 (hw _ (List.mem_of_getElem? (i := 17) rfl)) I.2.2.1 rfl (fun T1 A1 => ?_)
  refine o_iconst (q := 5) (z := 1) A1 d6_4 rfl rfl ?_
  refine o_dup2 (q := 6) A1 d6_5 rfl rfl rfl ?_
  refine o_laload (q := 7) (m := 16 * n) (i := 1) (v := .long (f (1))) A1 d6_6 I.2.2.2.1 (by decide) (by omega) rfl rfl ?_
  refine o_iloadN (q := 8) A1 d6_7 rfl rfl ?_
  refine o_i2l (q := 9) A1 d6_8 rfl ?_
  refine o_ladd (q := 10) A1 d6_9 rfl ?_
  refine o_lastore (q := 11) (m := 16 * n) (i := 1) A1 d6_10 I.2.2.2.1 (by decide) (by omega) I.2.2.2.2.1 rfl (fun T3 h3 A3 W3 => ?_)
  have J := I.st (d := c.toInt64) W3 (rfl)
  exact o_retV A3 rfl d6_11 (by decide) (by decide) ⟨rfl, J⟩
set_option maxRecDepth 65536 in
set_option maxHeartbeats 40000000 in
theorem rm7 (l : Launch) (Z : State) (a0 : Array Value) (hw : ∀ d ∈ tables_1, d.before a0 Z = true) (t ca : Addr) (s : Int32) (i : Nat) (o : Int32) (n : Nat) (f : Nat → Int64) (h0 : Heap) (n0 : Nat) (I : own_TI Z n0 h0 t ca o (16 * n) f) (hs : s.toInt = (i : Int)) (hi : i < n) (hn : n ≤ 4) :
    oMet l b7 [] Z n0 #[.ref t, .int s] h0 (fun v h' => v = none ∧ own_TI Z n0 h' t ca o (16 * n) (own_upd f (16 * i + 2) 1)) := by
  refine o_enter pn7 (Ls := #[.val (.ref t), .val (.int s)]) (fun m => by first | (simp [entryFrame, mkF, argsToLocals, Value.category, oBd.maxL, b7]; done) | rfl) ?_
  intro w T0 A0
  have j1 : (s * 16 + 2).toInt = ((16 * i + 2 : Nat) : Int) := own_ixk (own_ix16 hs (by omega)) (by omega) (j := 2) (by decide) (by decide)
  refine o_aloadN (q := 1) A0 d7_0 rfl rfl rfl ?_
  refine o_getF (q := 4) A0 d7_1 (hw _ (List.mem_of_getElem? (i := 17) rfl)) I.2.2.1 rfl (fun T1 A1 => ?_)
  refine o_iloadN (q := 5) A1 d7_4 rfl rfl ?_
  refine o_bipush (q := 7) (z := 16) A1 d7_5 rfl rfl ?_
  refine o_imul (q := 8) A1 d7_7 rfl ?_
  refine o_iconst (q := 9) (z := 2) A1 d7_8 rfl rfl ?_
  refine o_iadd (q := 10) A1 d7_9 rfl ?_
  refine o_dup2 (q := 11) A1 d7_10 rfl rfl rfl ?_
  refine o_laload (q := 12) (m := 16 * n) (i := 16 * i + 2) (v := .long (f (16 * i + 2))) A1 d7_11 I.2.2.2.1 j1 (by omega) rfl rfl ?_
  refine o_lconst (q := 13) (z := 1) A1 d7_12 rfl rfl ?_
  refine o_ladd (q := 14) A1 d7_13 rfl ?_
  refine o_lastore (q := 15) (m := 16 * n) (i := 16 * i + 2) A1 d7_14 I.2.2.2.1 j1 (by omega) I.2.2.2.2.1 rfl (fun T3 h3 A3 W3 => ?_)
  have J := I.st (d := 1) W3 (rfl)
  exact o_retV A3 rfl d7_15 (by decide) (by decide) ⟨rfl, J⟩
set_option maxRecDepth 65536 in
set_option maxHeartbeats 40000000 in
theorem rm12 (l : Launch) (Z : State) (a0 : Array Value) (hw : ∀ d ∈ tables_1, d.before a0 Z = true) (t ca : Addr) (s : Int32) (i : Nat) (o : Int32) (n : Nat) (f : Nat → Int64) (h0 : Heap) (n0 : Nat) (I : own_TI Z n0 h0 t ca o (16 * n) f) (hs : s.toInt = (i : Int)) (hi : i < n) (hn : n ≤ 4) :
    oMet l b12 [] Z n0 #[.ref t, .int s] h0 (fun v h' => v = none ∧ own_TI Z n0 h' t ca o (16 * n) (own_upd f (16 * i + 5) 1)) := by
  refine o_enter pn12 (Ls := #[.val (.ref t), .val (.int s)]) (fun m => by first | (simp [entryFrame, mkF, argsToLocals, Value.category, oBd.maxL, b12]; done) | rfl) ?_
  intro w T0 A0
  have j1 : (s * 16 + 5).toInt = ((16 * i + 5 : Nat) : Int) := own_ixk (own_ix16 hs (by omega)) (by omega) (j := 5) (by decide) (by decide)
  refine o_aloadN (q := 1) A0 d12_0 rfl rfl rfl ?_
  refine o_getF (q := 4) A0 d12_1 (hw _ (List.mem_of_getElem? (i := 17) rfl)) I.2.2.1 rfl (fun T1 A1 => ?_)
  refine o_iloadN (q := 5) A1 d12_4 rfl rfl ?_
  refine o_bipush (q := 7) (z := 16) A1 d12_5 rfl rfl ?_
  refine o_imul (q := 8) A1 d12_7 rfl ?_
  refine o_iconst (q := 9) (z := 5) A1 d12_8 rfl rfl ?_
  refine o_iadd (q := 10) A1 d12_9 rfl ?_
  refine o_dup2 (q := 11) A1 d12_10 rfl rfl rfl ?_
  refine o_laload (q := 12) (m := 16 * n) (i := 16 * i + 5) (v := .long (f (16 * i + 5))) A1 d12_11 I.2.2.2.1 j1 (by omega) rfl rfl ?_
  refine o_lconst (q := 13) (z := 1) A1 d12_12 rfl rfl ?_
  refine o_ladd (q := 14) A1 d12_13 rfl ?_
  refine o_lastore (q := 15) (m := 16 * n) (i := 16 * i + 5) A1 d12_14 I.2.2.2.1 j1 (by omega) I.2.2.2.2.1 rfl (fun T3 h3 A3 W3 => ?_)
  have J := I.st (d := 1) W3 (rfl)
  exact o_retV A3 rfl d12_15 (by decide) (by decide) ⟨rfl, J⟩
set_option maxRecDepth 65536 in
set_option maxHeartbeats 40000000 in
theorem rm9 (l : Launch) (Z : State) (a0 : Array Value) (hw : ∀ d ∈ tables_1, d.before a0 Z = true) (t ca : Addr) (r : Int32) (o : Int32) (n : Nat) (f : Nat → Int64) (h0 : Heap) (n0 : Nat) (I : own_TI Z n0 h0 t ca o (16 * n) f) :
    oMet l b9 [] Z n0 #[.ref t, .int r] h0 (fun v h' => v = some (.int (if o = 0 then r else 1)) ∧ h' = h0) := by
  refine o_enter pn9 (Ls := #[.val (.ref t), .val (.int r)]) (fun m => by first | (simp [entryFrame, mkF, argsToLocals, Value.category, oBd.maxL, b9]; done) | rfl) ?_
  intro w T0 A0
  refine o_aloadN (q := 1) A0 d9_0 rfl rfl rfl ?_
  refine o_getF (q := 4) A0 d9_1 (hw _ (List.mem_of_getElem? (i := 13) rfl)) I.2.1 rfl (fun T1 A1 => ?_)
  refine o_if (q := 11) (q' := 7) A1 d9_4 (by decide) (by decide) rfl (fun hc => ?_) (fun hc => ?_)
  · replace hc : o = (0 : Int32) := hc
    refine o_iloadN (q := 12) A1 d9_11 rfl rfl ?_
    exact o_retI A1 rfl d9_12 (by decide) (by decide) ⟨by rw [if_pos hc], rfl⟩
  · replace hc : ¬ (o = (0 : Int32)) := hc
    refine o_iconst (q := 8) (z := 1) A1 d9_7 rfl rfl ?_
    refine o_goto (q := 12) A1 d9_8 (by decide) (by decide) ?_
    exact o_retI A1 rfl d9_12 (by decide) (by decide) ⟨by rw [if_neg hc], rfl⟩
set_option maxRecDepth 65536 in
set_option maxHeartbeats 40000000 in
theorem rm8 (l : Launch) (Z : State) (a0 : Array Value) (hw : ∀ d ∈ tables_1, d.before a0 Z = true) (t ca : Addr) (r ch : Int32) (i : Nat) (o : Int32) (n : Nat) (f : Nat → Int64) (h0 : Heap) (n0 : Nat) (I : own_TI Z n0 h0 t ca o (16 * n) f) (hs : (if r = -1 then 0 else if o = 0 then r else 1).toInt = (i : Int)) (hi : i < n) (hn : n ≤ 4) :
    oMet l b8 [] Z n0 #[.ref t, .int r, .int ch] h0 (fun v h' => v = none ∧ own_TI Z n0 h' t ca o (16 * n) (own_upd f (16 * i + 4) ch.toInt64)) := by
  refine o_enter pn8 (Ls := #[.val (.ref t), .val (.int r), .val (.int ch)]) (fun m => by first | (simp [entryFrame, mkF, argsToLocals, Value.category, oBd.maxL, b8]; done) | rfl) ?_
  intro w T0 A0
  refine o_aloadN (q := 1) A0 d8_0 rfl rfl rfl ?_
  refine o_getF (q := 4) A0 d8_1 (hw _ (List.mem_of_getElem? (i := 17) rfl)) I.2.2.1 rfl (fun T1 A1 => ?_)
  refine o_iloadN (q := 5) A1 d8_4 rfl rfl ?_
  refine o_iconst (q := 6) (z := -1) A1 d8_5 rfl rfl ?_
  refine o_icmp (q := 13) (q' := 9) A1 d8_6 (by decide) (by decide) rfl (fun hc => ?_) (fun hc => ?_)
  · replace hc : r ≠ (-1 : Int32) := hc
    rw [if_neg hc] at hs
    refine o_aloadN (q := 14) A1 d8_13 rfl rfl rfl ?_
    refine o_iloadN (q := 15) A1 d8_14 rfl rfl ?_
    refine o_callP (q := 18) (W := 1) (k' := 0) (n' := 0) (st := [.ref ca]) (argsL := [.int r]) (b' := b9) A1 (rm9 l Z a0 hw t ca r o n f h0 n0 I) d8_15 I.1 (hw _ (List.mem_of_getElem? (i := 44) rfl)) (hw _ (List.mem_of_getElem? (i := 46) rfl)) (hw _ (List.mem_of_getElem? (i := 5) rfl)) (hw _ (List.mem_of_getElem? (i := 45) rfl)) (hw _ (List.mem_of_getElem? (i := 6) rfl)) (hw _ (List.mem_of_getElem? (i := 47) rfl)) (by decide) pd9 rfl rfl rfl rfl rfl (by decide) (by decide) rfl rfl (by decide) (by decide) rfl (fun v2 T2 h2 A2 hQ2 => ?_)
    obtain ⟨rfl, rfl⟩ := hQ2
    show oFin _ _ _ _ T2 18 #[.val (.ref t), .val (.int r), .val (.int ch)] [.int (if o = 0 then r else 1), .ref ca]
    have j1 : ((if o = 0 then r else 1) * 16 + 4).toInt = ((16 * i + 4 : Nat) : Int) := own_ixk (own_ix16 hs (by omega)) (by omega) (j := 4) (by decide) (by decide)
    refine o_bipush (q := 20) (z := 16) A2 d8_18 rfl rfl ?_
    refine o_imul (q := 21) A2 d8_20 rfl ?_
    refine o_iconst (q := 22) (z := 4) A2 d8_21 rfl rfl ?_
    refine o_iadd (q := 23) A2 d8_22 rfl ?_
    refine o_dup2 (q := 24) A2 d8_23 rfl rfl rfl ?_
    refine o_laload (q := 25) (m := 16 * n) (i := 16 * i + 4) (v := .long (f (16 * i + 4))) A2 d8_24 I.2.2.2.1 j1 (by omega) rfl rfl ?_
    refine o_iloadN (q := 26) A2 d8_25 rfl rfl ?_
    refine o_i2l (q := 27) A2 d8_26 rfl ?_
    refine o_ladd (q := 28) A2 d8_27 rfl ?_
    refine o_lastore (q := 29) (m := 16 * n) (i := 16 * i + 4) A2 d8_28 I.2.2.2.1 j1 (by omega) I.2.2.2.2.1 rfl (fun T4 h4 A4 W4 => ?_)
    have J := I.st (d := ch.toInt64) W4 (rfl)
    exact o_retV A4 rfl d8_29 (by decide) (by decide) ⟨rfl, J⟩
  · replace hc : ¬ (r ≠ (-1 : Int32)) := hc
    rw [if_pos (Classical.not_not.mp hc)] at hs
    have j1 : ((0 : Int32) * 16 + 4).toInt = ((16 * i + 4 : Nat) : Int) := own_ixk (own_ix16 hs (by omega)) (by omega) (j := 4) (by decide) (by decide)
    refine o_iconst (q := 10) (z := 0) A1 d8_9 rfl rfl ?_
    refine o_goto (q := 18) A1 d8_10 (by decide) (by decide) ?_
    refine o_bipush (q := 20) (z := 16) A1 d8_18 rfl rfl ?_
    refine o_imul (q := 21) A1 d8_20 rfl ?_
    refine o_iconst (q := 22) (z := 4) A1 d8_21 rfl rfl ?_
    refine o_iadd (q := 23) A1 d8_22 rfl ?_
    refine o_dup2 (q := 24) A1 d8_23 rfl rfl rfl ?_
    refine o_laload (q := 25) (m := 16 * n) (i := 16 * i + 4) (v := .long (f (16 * i + 4))) A1 d8_24 I.2.2.2.1 j1 (by omega) rfl rfl ?_
    refine o_iloadN (q := 26) A1 d8_25 rfl rfl ?_
    refine o_i2l (q := 27) A1 d8_26 rfl ?_
    refine o_ladd (q := 28) A1 d8_27 rfl ?_
    refine o_lastore (q := 29) (m := 16 * n) (i := 16 * i + 4) A1 d8_28 I.2.2.2.1 j1 (by omega) I.2.2.2.2.1 rfl (fun T6 h6 A6 W6 => ?_)
    have J := I.st (d := ch.toInt64) W6 (rfl)
    exact o_retV A6 rfl d8_29 (by decide) (by decide) ⟨rfl, J⟩
set_option maxRecDepth 65536 in
set_option maxHeartbeats 40000000 in
theorem rm11 (l : Launch) (Z : State) (a0 : Array Value) (hw : ∀ d ∈ tables_1, d.before a0 Z = true) (t ca : Addr) (r md : Int32) (i : Nat) (o : Int32) (n : Nat) (f : Nat → Int64) (h0 : Heap) (n0 : Nat) (I : own_TI Z n0 h0 t ca o (16 * n) f) (hs : (if o = 0 then r else 1).toInt = (i : Int)) (hi : i < n) (hn : n ≤ 4) :
    oMet l b11 [] Z n0 #[.ref t, .int r, .int md] h0 (fun v h' => v = none ∧ own_TI Z n0 h' t ca o (16 * n) (own_upd (own_upd f (16 * i + 3) 1) (16 * i + 6) (if md = 0 ∨ md = r then 0 else 1))) := by
  refine o_enter pn11 (Ls := #[.val (.ref t), .val (.int r), .val (.int md), .unset]) (fun m => by first | (simp [entryFrame, mkF, argsToLocals, Value.category, oBd.maxL, b11]; done) | rfl) ?_
  intro w T0 A0
  refine o_aloadN (q := 1) A0 d11_0 rfl rfl rfl ?_
  refine o_iloadN (q := 2) A0 d11_1 rfl rfl ?_
  refine o_callP (q := 5) (W := 0) (k' := 0) (n' := 0) (st := []) (argsL := [.int r]) (b' := b9) A0 (rm9 l Z a0 hw t ca r o n f h0 n0 I) d11_2 I.1 (hw _ (List.mem_of_getElem? (i := 44) rfl)) (hw _ (List.mem_of_getElem? (i := 46) rfl)) (hw _ (List.mem_of_getElem? (i := 5) rfl)) (hw _ (List.mem_of_getElem? (i := 45) rfl)) (hw _ (List.mem_of_getElem? (i := 6) rfl)) (hw _ (List.mem_of_getElem? (i := 47) rfl)) (by decide) pd9 rfl rfl rfl rfl rfl (by decide) (by decide) rfl rfl (by decide) (by decide) rfl (fun v1 T1 h1 A1 hQ1 => ?_)
  obtain ⟨rfl, rfl⟩ := hQ1
  show oFin _ _ _ _ T1 5 #[.val (.ref t), .val (.int r), .val (.int md), .unset] [.int (if o = 0 then r else 1)]
  generalize (if o = 0 then r else 1) = s at hs ⊢
  show oFin _ _ _ _ T1 5 #[.val (.ref t), .val (.int r), .val (.int md), .unset] [.int s]
  have j3 : (s * 16 + 3).toInt = ((16 * i + 3 : Nat) : Int) := own_ixk (own_ix16 hs (by omega)) (by omega) (j := 3) (by decide) (by decide)
  have j6 : (s * 16 + 6).toInt = ((16 * i + 6 : Nat) : Int) := own_ixk (own_ix16 hs (by omega)) (by omega) (j := 6) (by decide) (by decide)
  refine o_bipush (q := 7) (z := 16) A1 d11_5 rfl rfl ?_
  refine o_imul (q := 8) A1 d11_7 rfl ?_
  refine o_istoreN (q := 9) (Ls' := #[.val (.ref t), .val (.int r), .val (.int md), .val (.int (s * (16 : Int32)))]) A1 d11_8 rfl rfl ?_
  refine o_aloadN (q := 10) A1 d11_9 rfl rfl rfl ?_
  refine o_getF (q := 13) A1 d11_10 (hw _ (List.mem_of_getElem? (i := 17) rfl)) I.2.2.1 rfl (fun T2 A2 => ?_)
  refine o_iloadN (q := 14) A2 d11_13 rfl rfl ?_
  refine o_iconst (q := 15) (z := 3) A2 d11_14 rfl rfl ?_
  refine o_iadd (q := 16) A2 d11_15 rfl ?_
  refine o_dup2 (q := 17) A2 d11_16 rfl rfl rfl ?_
  refine o_laload (q := 18) (m := 16 * n) (i := 16 * i + 3) (v := .long (f (16 * i + 3))) A2 d11_17 I.2.2.2.1 j3 (by omega) rfl rfl ?_
  refine o_lconst (q := 19) (z := 1) A2 d11_18 rfl rfl ?_
  refine o_ladd (q := 20) A2 d11_19 rfl ?_
  refine o_lastore (q := 21) (m := 16 * n) (i := 16 * i + 3) A2 d11_20 I.2.2.2.1 j3 (by omega) I.2.2.2.2.1 rfl (fun T4 h4 A4 W4 => ?_)
  have J := I.st (d := 1) W4 (rfl)
  refine o_iloadN (q := 22) A4 d11_21 rfl rfl ?_
  refine o_if (q := 43) (q' := 25) A4 d11_22 (by decide) (by decide) rfl (fun hc => ?_) (fun hc => ?_)
  · replace hc : md = (0 : Int32) := hc
    exact o_retV A4 rfl d11_43 (by decide) (by decide) ⟨rfl, by rw [if_pos (Or.inl hc), own_upd0]; exact J⟩
  · replace hc : ¬ (md = (0 : Int32)) := hc
    refine o_iloadN (q := 26) A4 d11_25 rfl rfl ?_
    refine o_iloadN (q := 27) A4 d11_26 rfl rfl ?_
    refine o_icmp (q := 43) (q' := 30) A4 d11_27 (by decide) (by decide) rfl (fun hd => ?_) (fun hd => ?_)
    · replace hd : md = r := hd
      exact o_retV A4 rfl d11_43 (by decide) (by decide) ⟨rfl, by rw [if_pos (Or.inr hd), own_upd0]; exact J⟩
    · replace hd : ¬ (md = r) := hd
      refine o_aloadN (q := 31) A4 d11_30 rfl rfl rfl ?_
      refine o_getF (q := 34) A4 d11_31 (hw _ (List.mem_of_getElem? (i := 17) rfl)) J.2.2.1 rfl (fun T5 A5 => ?_)
      refine o_iloadN (q := 35) A5 d11_34 rfl rfl ?_
      refine o_bipush (q := 37) (z := 6) A5 d11_35 rfl rfl ?_
      refine o_iadd (q := 38) A5 d11_37 rfl ?_
      refine o_dup2 (q := 39) A5 d11_38 rfl rfl rfl ?_
      refine o_laload (q := 40) (m := 16 * n) (i := 16 * i + 6) (v := .long ((own_upd f (16 * i + 3) 1) (16 * i + 6))) A5 d11_39 J.2.2.2.1 j6 (by omega) rfl rfl ?_
      refine o_lconst (q := 41) (z := 1) A5 d11_40 rfl rfl ?_
      refine o_ladd (q := 42) A5 d11_41 rfl ?_
      refine o_lastore (q := 43) (m := 16 * n) (i := 16 * i + 6) A5 d11_42 J.2.2.2.1 j6 (by omega) J.2.2.2.2.1 rfl (fun T7 h7 A7 W7 => ?_)
      have L := J.st (d := 1) W7 (rfl)
      exact o_retV A7 rfl d11_43 (by decide) (by decide) ⟨rfl, by rw [if_neg (fun q => q.elim hc hd)]; exact L⟩
theorem own_cu (f : Nat → Int64) (s k k' : Nat) (d : Int64) (r : Nat) (hk : k < 16) (hk' : k' < 16) (hs : s < r) : own_col (own_upd f (16 * s + k') d) k r = own_col f k r + (if k = k' then d else 0) := by
  rw [own_col_upd f s k k' d hk hk' r]
  by_cases e : k = k'
  · rw [if_pos ⟨hs, e⟩, if_pos e]
  · rw [if_neg (fun q => e q.2), if_neg e]
theorem own_col0 (k : Nat) : ∀ r, own_col (fun _ => 0) k r = 0
  | 0 => rfl
  | r + 1 => by show own_col (fun _ => 0) k r + 0 = 0; rw [own_col0 k r]; rfl
def own_res (m : Int64) (S : Nat → Int64) : Nat → Int64
  | 0 => m + S 2 - S 1
  | 1 => S 0 - S 3 - S 5
  | 2 => S 3 - S 4
  | 3 => S 4 + S 5
  | _ => S 6
set_option maxRecDepth 65536 in
set_option maxHeartbeats 40000000 in
theorem loopI (l : Launch) (Z : State) (a0 : Array Value) (hw : ∀ d ∈ tables_1, d.before a0 Z = true) (t ca sa : Addr) (m : Int64) (o : Int32) (n : Nat) (f : Nat → Int64) (n0 : Nat) (hn : n ≤ 4) (gs : n0 ≤ sa) (ne1 : t ≠ sa) (ne2 : ca ≠ sa) (w : oWd) (Q : Option Value → Heap → Prop) (row : Int32) (r : Nat) (hrow : row.toInt = ((16 * r : Nat) : Int)) (hr : r < n)
    (K : ∀ T h, oPos l Z n0 w b10 T h 1 7 → own_TI Z n0 h t ca o (16 * n) f → oArr Z h sa .long 7 (fun i => .long (own_col f i (r + 1))) → ∀ kk : Int32, oFin w b10 n0 Q T 51 #[.val (.ref t), .val (.long m), .second, .val (.ref sa), .val (.int row), .val (.int kk)] []) :
    ∀ (k j : Nat) (z : Int32) (T0 : State) (h : Heap), j + k = 7 → z.toInt = (j : Int) → oPos l Z n0 w b10 T0 h 1 7 → own_TI Z n0 h t ca o (16 * n) f → oArr Z h sa .long 7 (fun i => .long (if i < j then own_col f i (r + 1) else own_col f i r)) → oFin w b10 n0 Q T0 21 #[.val (.ref t), .val (.long m), .second, .val (.ref sa), .val (.int row), .val (.int z)] [] := by
  have k6 : (6 : Int32).toInt = 6 := by decide
  intro k
  induction k with
  | zero =>
    intro j z T0 h hk hz A0 I V
    refine o_iload (q := 23) A0 d10_21 rfl rfl ?_
    refine o_bipush (q := 25) (z := 6) A0 d10_23 rfl rfl ?_
    refine o_icmp (q := 51) (q' := 28) A0 d10_25 (by decide) (by decide) rfl (fun hc => ?_) (fun hc => ?_)
    · replace hc : (6 : Int32) < z := hc
      rw [Int32.lt_iff_toInt_lt, k6, hz] at hc
      exact K T0 h A0 I (V.congr fun i hi => by rw [if_pos (by omega)]) z
    · replace hc : ¬ ((6 : Int32) < z) := hc
      rw [Int32.lt_iff_toInt_lt, k6, hz] at hc
      omega
  | succ k ih =>
    intro j z T0 h hk hz A0 I V
    refine o_iload (q := 23) A0 d10_21 rfl rfl ?_
    refine o_bipush (q := 25) (z := 6) A0 d10_23 rfl rfl ?_
    refine o_icmp (q := 51) (q' := 28) A0 d10_25 (by decide) (by decide) rfl (fun hc => ?_) (fun hc => ?_)
    · replace hc : (6 : Int32) < z := hc
      rw [Int32.lt_iff_toInt_lt, k6, hz] at hc
      exact K T0 h A0 I (V.congr fun i hi => by rw [if_pos (by omega)]) z
    · replace hc : ¬ ((6 : Int32) < z) := hc
      rw [Int32.lt_iff_toInt_lt, k6, hz] at hc
      refine o_aloadN (q := 29) A0 d10_28 rfl rfl rfl ?_
      refine o_iload (q := 31) A0 d10_29 rfl rfl ?_
      refine o_dup2 (q := 32) A0 d10_31 rfl rfl rfl ?_
      refine o_laload (q := 33) (m := 7) (i := j) (v := .long (own_col f j r)) A0 d10_32 V hz (by omega) (by show Value.long (if j < j then _ else _) = _; rw [if_neg (Nat.lt_irrefl j)]) rfl ?_
      refine o_aloadN (q := 34) A0 d10_33 rfl rfl rfl ?_
      refine o_getF (q := 37) A0 d10_34 (hw _ (List.mem_of_getElem? (i := 17) rfl)) I.2.2.1 rfl (fun T1 A1 => ?_)
      refine o_iload (q := 39) A1 d10_37 rfl rfl ?_
      refine o_iload (q := 41) A1 d10_39 rfl rfl ?_
      refine o_iadd (q := 42) A1 d10_41 rfl ?_
      refine o_laload (q := 43) (m := 16 * n) (i := 16 * r + j) (v := .long (f (16 * r + j))) A1 d10_42 I.2.2.2.1 (own_ixk hrow (by omega) hz (by omega)) (by omega) rfl rfl ?_
      refine o_ladd (q := 44) A1 d10_43 rfl ?_
      refine o_lastore (q := 45) (m := 7) (i := j) A1 d10_44 V hz (by omega) gs rfl (fun T2 h2 A2 W2 => ?_)
      refine o_iinc (q := 48) (z := (z + (1 : Int32))) (Ls' := #[.val (.ref t), .val (.long m), .second, .val (.ref sa), .val (.int row), .val (.int (z + (1 : Int32)))]) A2 d10_45 rfl rfl rfl rfl ?_
      refine o_goto (q := 21) A2 d10_48 (by decide) (by decide) ?_
      refine ih (j + 1) (z + 1) T2 h2 (by omega) (own_ixk hz (by omega) (k := 1) (j := 1) (by decide) (by decide)) A2 (I.other W2 ne1 ne2) ((V.same W2).congr fun i hi => ?_)
      show (if i = j then Value.long (own_col f j r + f (16 * r + j)) else Value.long (if i < j then own_col f i (r + 1) else own_col f i r)) = Value.long (if i < j + 1 then own_col f i (r + 1) else own_col f i r)
      by_cases e : i = j
      · subst e; rw [if_pos rfl, if_pos (Nat.lt_succ_self _)]; rfl
      · rw [if_neg e]
        by_cases e2 : i < j
        · rw [if_pos e2, if_pos (by omega)]
        · rw [if_neg e2, if_neg (by omega)]
set_option maxRecDepth 65536 in
set_option maxHeartbeats 40000000 in
theorem loopO (l : Launch) (Z : State) (a0 : Array Value) (hw : ∀ d ∈ tables_1, d.before a0 Z = true) (t ca sa : Addr) (m : Int64) (o : Int32) (n : Nat) (f : Nat → Int64) (n0 : Nat) (hn : n ≤ 4) (gs : n0 ≤ sa) (ne1 : t ≠ sa) (ne2 : ca ≠ sa) (w : oWd) (Q : Option Value → Heap → Prop)
    (K : ∀ T h, oPos l Z n0 w b10 T h 1 7 → own_TI Z n0 h t ca o (16 * n) f → oArr Z h sa .long 7 (fun i => .long (own_col f i n)) → ∀ (row : Int32) (s5 : Slot), oFin w b10 n0 Q T 57 #[.val (.ref t), .val (.long m), .second, .val (.ref sa), .val (.int row), s5] []) :
    ∀ (k r : Nat) (row : Int32) (s5 : Slot) (T0 : State) (h : Heap), r + k = n → row.toInt = ((16 * r : Nat) : Int) → (s5 = .unset ∨ ∃ x : Int32, s5 = .val (.int x)) → oPos l Z n0 w b10 T0 h 1 7 → own_TI Z n0 h t ca o (16 * n) f → oArr Z h sa .long 7 (fun i => .long (own_col f i r)) → oFin w b10 n0 Q T0 8 #[.val (.ref t), .val (.long m), .second, .val (.ref sa), .val (.int row), s5] [] := by
  have kN : (16 * n).toInt32.toInt = ((16 * n : Nat) : Int) := Int32.toInt_ofNat_of_lt (by omega)
  intro k
  induction k with
  | zero =>
    intro r row s5 T0 h hk hrow hs5 A0 I V
    refine o_iload (q := 10) A0 d10_8 rfl rfl ?_
    refine o_aloadN (q := 11) A0 d10_10 rfl rfl rfl ?_
    refine o_getF (q := 14) A0 d10_11 (hw _ (List.mem_of_getElem? (i := 17) rfl)) I.2.2.1 rfl (fun T1 A1 => ?_)
    refine o_arraylength (q := 15) (z := (16 * n).toInt32) A1 d10_14 I.2.2.2.1 rfl rfl ?_
    refine o_icmp (q := 57) (q' := 18) A1 d10_15 (by decide) (by decide) rfl (fun hc => ?_) (fun hc => ?_)
    · replace hc : (16 * n).toInt32 ≤ row := hc
      rw [Int32.le_iff_toInt_le, kN, hrow] at hc
      have e : r = n := by omega
      subst e
      exact K T1 h A1 I V row s5
    · replace hc : ¬ ((16 * n).toInt32 ≤ row) := hc
      rw [Int32.le_iff_toInt_le, kN, hrow] at hc
      omega
  | succ k ih =>
    intro r row s5 T0 h hk hrow hs5 A0 I V
    refine o_iload (q := 10) A0 d10_8 rfl rfl ?_
    refine o_aloadN (q := 11) A0 d10_10 rfl rfl rfl ?_
    refine o_getF (q := 14) A0 d10_11 (hw _ (List.mem_of_getElem? (i := 17) rfl)) I.2.2.1 rfl (fun T1 A1 => ?_)
    refine o_arraylength (q := 15) (z := (16 * n).toInt32) A1 d10_14 I.2.2.2.1 rfl rfl ?_
    refine o_icmp (q := 57) (q' := 18) A1 d10_15 (by decide) (by decide) rfl (fun hc => ?_) (fun hc => ?_)
    · replace hc : (16 * n).toInt32 ≤ row := hc
      rw [Int32.le_iff_toInt_le, kN, hrow] at hc
      have e : r = n := by omega
      subst e
      exact K T1 h A1 I V row s5
    · replace hc : ¬ ((16 * n).toInt32 ≤ row) := hc
      rw [Int32.le_iff_toInt_le, kN, hrow] at hc
      rcases hs5 with rfl | ⟨x5, rfl⟩
      · have hr : r < n := by omega
        refine o_iconst (q := 19) (z := 0) A1 d10_18 rfl rfl ?_
        refine o_istore (q := 21) (Ls' := #[.val (.ref t), .val (.long m), .second, .val (.ref sa), .val (.int row), .val (.int (0 : Int32))]) A1 d10_19 rfl rfl ?_
        refine loopI l Z a0 hw t ca sa m o n f n0 hn gs ne1 ne2 w Q row r hrow hr (fun T9 h9 A9 I9 V9 kk => ?_) 7 0 0 T1 h rfl (by decide) A1 I (V.congr fun i hi => by rw [if_neg (Nat.not_lt_zero i)])
        refine o_iinc (q := 54) (z := (row + (16 : Int32))) (Ls' := #[.val (.ref t), .val (.long m), .second, .val (.ref sa), .val (.int (row + (16 : Int32))), .val (.int kk)]) A9 d10_51 rfl rfl rfl rfl ?_
        refine o_goto (q := 8) A9 d10_54 (by decide) (by decide) ?_
        exact ih (r + 1) (row + 16) (.val (.int kk)) T9 h9 (by omega) (own_ixk hrow (by omega) (k := 16) (j := 16) (by decide) (by decide)) (Or.inr ⟨kk, rfl⟩) A9 I9 V9
      · have hr : r < n := by omega
        refine o_iconst (q := 19) (z := 0) A1 d10_18 rfl rfl ?_
        refine o_istore (q := 21) (Ls' := #[.val (.ref t), .val (.long m), .second, .val (.ref sa), .val (.int row), .val (.int (0 : Int32))]) A1 d10_19 rfl rfl ?_
        refine loopI l Z a0 hw t ca sa m o n f n0 hn gs ne1 ne2 w Q row r hrow hr (fun T9 h9 A9 I9 V9 kk => ?_) 7 0 0 T1 h rfl (by decide) A1 I (V.congr fun i hi => by rw [if_neg (Nat.not_lt_zero i)])
        refine o_iinc (q := 54) (z := (row + (16 : Int32))) (Ls' := #[.val (.ref t), .val (.long m), .second, .val (.ref sa), .val (.int (row + (16 : Int32))), .val (.int kk)]) A9 d10_51 rfl rfl rfl rfl ?_
        refine o_goto (q := 8) A9 d10_54 (by decide) (by decide) ?_
        exact ih (r + 1) (row + 16) (.val (.int kk)) T9 h9 (by omega) (own_ixk hrow (by omega) (k := 16) (j := 16) (by decide) (by decide)) (Or.inr ⟨kk, rfl⟩) A9 I9 V9
set_option maxRecDepth 65536 in
set_option maxHeartbeats 40000000 in
theorem rm10 (l : Launch) (Z : State) (a0 : Array Value) (hw : ∀ d ∈ tables_1, d.before a0 Z = true) (t ca : Addr) (m : Int64) (o : Int32) (n : Nat) (f : Nat → Int64) (h0 : Heap) (n0 : Nat) (Z0 : n0 ≤ h0.size) (I : own_TI Z n0 h0 t ca o (16 * n) f) (hn : n ≤ 4) :
    oMet l b10 [] Z n0 #[.ref t, .long m] h0 (fun v h' => ∃ ra, v = some (.ref ra) ∧ oArr Z h' ra .long 5 (fun i => .long (own_res m (fun k => own_col f k n) i))) := by
  refine o_enter pn10 (Ls := #[.val (.ref t), .val (.long m), .second, .unset, .unset, .unset]) (fun m => by first | (simp [entryFrame, mkF, argsToLocals, Value.category, oBd.maxL, b10]; done) | rfl) ?_
  intro w T0 A0
  refine o_bipush (q := 2) (z := 7) A0 d10_0 rfl rfl ?_
  refine o_newarr (q := 4) (k' := 1) (n' := 7) (m := 7) (cap := 7) A0 d10_2 rfl (hw _ (List.mem_of_getElem? (i := 16) rfl)) (by decide) (by decide) (by decide) rfl rfl (by decide) (by decide) rfl rfl (fun T1 h1 sa gsa A1 X1 V1 _ => ?_)
  have gs : n0 ≤ sa := by rw [gsa]; exact Z0
  have n1 : t ≠ sa := by rw [gsa]; exact Nat.ne_of_lt I.1.lt
  have n2 : ca ≠ sa := by rw [gsa]; exact Nat.ne_of_lt I.2.2.2.1.lt
  refine o_astoreN (q := 5) (Ls' := #[.val (.ref t), .val (.long m), .second, .val (.ref sa), .unset, .unset]) A1 d10_4 rfl rfl rfl ?_
  refine o_iconst (q := 6) (z := 0) A1 d10_5 rfl rfl ?_
  refine o_istore (q := 8) (Ls' := #[.val (.ref t), .val (.long m), .second, .val (.ref sa), .val (.int (0 : Int32)), .unset]) A1 d10_6 rfl rfl ?_
  refine loopO l Z a0 hw t ca sa m o n f n0 hn gs n1 n2 w (fun v h' => ∃ ra, v = some (.ref ra) ∧ oArr Z h' ra .long 5 (fun i => .long (own_res m (fun k => own_col f k n) i))) (fun T2 h2 A2 I2 V2 row s5 => ?_) n 0 0 .unset T1 h1 (Nat.zero_add n) (by decide) (Or.inl rfl) A1 (I.ext X1) V1
  refine o_iconst (q := 58) (z := 5) A2 d10_57 rfl rfl ?_
  refine o_newarr (q := 60) (k' := 2) (n' := 12) (m := 5) (cap := 5) A2 d10_58 rfl (hw _ (List.mem_of_getElem? (i := 16) rfl)) (by decide) (by decide) (by decide) rfl rfl (by decide) (by decide) rfl rfl (fun T3 h3 ra gra A3 X3 R0 _ => ?_)
  have Vs := V2.ext X3
  have gr : n0 ≤ ra := by rw [gra]; exact Nat.le_of_lt (Nat.lt_of_le_of_lt gs V2.lt)
  have nr : sa ≠ ra := by rw [gra]; exact Nat.ne_of_lt V2.lt
  refine o_astore (q := 62) (Ls' := #[.val (.ref t), .val (.long m), .second, .val (.ref sa), .val (.ref ra), s5]) A3 d10_60 rfl rfl rfl ?_
  refine o_aload (q := 64) A3 d10_62 rfl rfl rfl ?_
  refine o_iconst (q := 65) (z := 0) A3 d10_64 rfl rfl ?_
  refine o_lloadN (q := 66) A3 d10_65 rfl rfl ?_
  refine o_aloadN (q := 67) A3 d10_66 rfl rfl rfl ?_
  refine o_iconst (q := 68) (z := 2) A3 d10_67 rfl rfl ?_
  refine o_laload (q := 69) (m := 7) (i := 2) (v := .long (own_col f 2 n)) A3 d10_68 Vs (by decide) (by decide) rfl rfl ?_
  refine o_ladd (q := 70) A3 d10_69 rfl ?_
  refine o_aloadN (q := 71) A3 d10_70 rfl rfl rfl ?_
  refine o_iconst (q := 72) (z := 1) A3 d10_71 rfl rfl ?_
  refine o_laload (q := 73) (m := 7) (i := 1) (v := .long (own_col f 1 n)) A3 d10_72 Vs (by decide) (by decide) rfl rfl ?_
  refine o_lsub (q := 74) A3 d10_73 rfl ?_
  refine o_lastore (q := 75) (m := 5) (i := 0) A3 d10_74 R0 (by decide) (by decide) gr rfl (fun T4 h4 A4 W4 => ?_)
  have R1 := R0.same W4
  replace Vs := Vs.other W4 nr
  refine o_aload (q := 77) A4 d10_75 rfl rfl rfl ?_
  refine o_iconst (q := 78) (z := 1) A4 d10_77 rfl rfl ?_
  refine o_aloadN (q := 79) A4 d10_78 rfl rfl rfl ?_
  refine o_iconst (q := 80) (z := 0) A4 d10_79 rfl rfl ?_
  refine o_laload (q := 81) (m := 7) (i := 0) (v := .long (own_col f 0 n)) A4 d10_80 Vs (by decide) (by decide) rfl rfl ?_
  refine o_aloadN (q := 82) A4 d10_81 rfl rfl rfl ?_
  refine o_iconst (q := 83) (z := 3) A4 d10_82 rfl rfl ?_
  refine o_laload (q := 84) (m := 7) (i := 3) (v := .long (own_col f 3 n)) A4 d10_83 Vs (by decide) (by decide) rfl rfl ?_
  refine o_lsub (q := 85) A4 d10_84 rfl ?_
  refine o_aloadN (q := 86) A4 d10_85 rfl rfl rfl ?_
  refine o_iconst (q := 87) (z := 5) A4 d10_86 rfl rfl ?_
  refine o_laload (q := 88) (m := 7) (i := 5) (v := .long (own_col f 5 n)) A4 d10_87 Vs (by decide) (by decide) rfl rfl ?_
  refine o_lsub (q := 89) A4 d10_88 rfl ?_
  refine o_lastore (q := 90) (m := 5) (i := 1) A4 d10_89 R1 (by decide) (by decide) gr rfl (fun T5 h5 A5 W5 => ?_)
  have R2 := R1.same W5
  replace Vs := Vs.other W5 nr
  refine o_aload (q := 92) A5 d10_90 rfl rfl rfl ?_
  refine o_iconst (q := 93) (z := 2) A5 d10_92 rfl rfl ?_
  refine o_aloadN (q := 94) A5 d10_93 rfl rfl rfl ?_
  refine o_iconst (q := 95) (z := 3) A5 d10_94 rfl rfl ?_
  refine o_laload (q := 96) (m := 7) (i := 3) (v := .long (own_col f 3 n)) A5 d10_95 Vs (by decide) (by decide) rfl rfl ?_
  refine o_aloadN (q := 97) A5 d10_96 rfl rfl rfl ?_
  refine o_iconst (q := 98) (z := 4) A5 d10_97 rfl rfl ?_
  refine o_laload (q := 99) (m := 7) (i := 4) (v := .long (own_col f 4 n)) A5 d10_98 Vs (by decide) (by decide) rfl rfl ?_
  refine o_lsub (q := 100) A5 d10_99 rfl ?_
  refine o_lastore (q := 101) (m := 5) (i := 2) A5 d10_100 R2 (by decide) (by decide) gr rfl (fun T6 h6 A6 W6 => ?_)
  have R3 := R2.same W6
  replace Vs := Vs.other W6 nr
  refine o_aload (q := 103) A6 d10_101 rfl rfl rfl ?_
  refine o_iconst (q := 104) (z := 3) A6 d10_103 rfl rfl ?_
  refine o_aloadN (q := 105) A6 d10_104 rfl rfl rfl ?_
  refine o_iconst (q := 106) (z := 4) A6 d10_105 rfl rfl ?_
  refine o_laload (q := 107) (m := 7) (i := 4) (v := .long (own_col f 4 n)) A6 d10_106 Vs (by decide) (by decide) rfl rfl ?_
  refine o_aloadN (q := 108) A6 d10_107 rfl rfl rfl ?_
  refine o_iconst (q := 109) (z := 5) A6 d10_108 rfl rfl ?_
  refine o_laload (q := 110) (m := 7) (i := 5) (v := .long (own_col f 5 n)) A6 d10_109 Vs (by decide) (by decide) rfl rfl ?_
  refine o_ladd (q := 111) A6 d10_110 rfl ?_
  refine o_lastore (q := 112) (m := 5) (i := 3) A6 d10_111 R3 (by decide) (by decide) gr rfl (fun T7 h7 A7 W7 => ?_)
  have R4 := R3.same W7
  replace Vs := Vs.other W7 nr
  refine o_aload (q := 114) A7 d10_112 rfl rfl rfl ?_
  refine o_iconst (q := 115) (z := 4) A7 d10_114 rfl rfl ?_
  refine o_aloadN (q := 116) A7 d10_115 rfl rfl rfl ?_
  refine o_bipush (q := 118) (z := 6) A7 d10_116 rfl rfl ?_
  refine o_laload (q := 119) (m := 7) (i := 6) (v := .long (own_col f 6 n)) A7 d10_118 Vs (by decide) (by decide) rfl rfl ?_
  refine o_lastore (q := 120) (m := 5) (i := 4) A7 d10_119 R4 (by decide) (by decide) gr rfl (fun T8 h8 A8 W8 => ?_)
  have R5 := R4.same W8
  replace Vs := Vs.other W8 nr
  refine o_aload (q := 122) A8 d10_120 rfl rfl rfl ?_
  exact o_retA A8 rfl rfl rfl d10_122 (by decide) (by decide) ⟨ra, rfl, R5.congr fun i hi => by
      match i, hi with
      | 0, _ => rfl
      | 1, _ => rfl
      | 2, _ => rfl
      | 3, _ => rfl
      | 4, _ => rfl⟩
theorem own_seats (x : Int32) : 0 ≤ (x &&& 3).toInt ∧ (x &&& 3).toInt ≤ 3 := by
  have e1 : (x &&& 3).toInt = x.toInt % 2 ^ 2 := Jvm.Kit.i32_mask x 3 (k := 2) (by decide) (by decide)
  omega
theorem own_nn (s : Int32) (h0 : 0 ≤ s.toInt) (h3 : s.toInt ≤ 3) : ∃ n : Nat, 2 ≤ n ∧ n ≤ 4 ∧ (if s < 1 then 1 else s).toInt + 1 = (n : Int) ∧ ((if s < 1 then 1 else s) + 1).toInt = (n : Int) := by
  have k1 : (1 : Int32).toInt = 1 := by decide
  have q : ∃ z : Int32, z = (if s < 1 then 1 else s) ∧ 1 ≤ z.toInt ∧ z.toInt ≤ 3 := by
    by_cases h : s < 1
    · exact ⟨1, by rw [if_pos h], by decide, by decide⟩
    · rw [Int32.lt_iff_toInt_lt, k1] at h
      exact ⟨s, by rw [if_neg (by rw [Int32.lt_iff_toInt_lt, k1]; exact h)], by omega, by omega⟩
  obtain ⟨z, hz, q1, q2⟩ := q
  rw [← hz]
  refine ⟨(z.toInt + 1).toNat, by omega, by omega, by omega, ?_⟩
  rw [Jvm.Kit.i32_add (by omega) (by omega), k1]; omega
theorem own_rem {x y : Int32} {n : Nat} (hx : 0 ≤ x.toInt) (hy : y.toInt = (n : Int)) (hn : 2 ≤ n) : ∃ i : Nat, i < n ∧ (x % y).toInt = (i : Int) := by
  have e := Jvm.Kit.i32_rem_nonneg (x := x) (y := y) hx
  have h1 := Int.emod_nonneg x.toInt (b := y.toInt) (by omega)
  have h2 := Int.emod_lt_of_pos x.toInt (b := y.toInt) (by omega)
  exact ⟨(x % y).toInt.toNat, by omega, by omega⟩
theorem own_m8 (x : Int32) : 0 ≤ (x &&& 255).toInt := by
  have e1 : (x &&& 255).toInt = x.toInt % 2 ^ 8 := Jvm.Kit.i32_mask x 255 (k := 8) (by decide) (by decide)
  omega
theorem own_m31 (x : Int32) : 0 ≤ (x &&& 2147483647).toInt := by
  have e1 : (x &&& 2147483647).toInt = x.toInt % 2 ^ 31 := Jvm.Kit.i32_mask x 2147483647 (k := 31) (by decide) (by decide)
  omega
theorem own_nz {y : Int32} {n : Nat} (hy : y.toInt = (n : Int)) (hn : 2 ≤ n) : y ≠ 0 := fun e => by
  rw [e, Int32.toInt_zero] at hy; omega
theorem own_lceq (x y : Int64) : lcmpW x y = 0 ↔ x = y := by rw [lcW]; exact lc_eq x y
theorem own_slot {s r : Int32} {n : Nat} (hn : 2 ≤ n) (h : s = 0 ∨ ∃ i : Nat, i < n ∧ r.toInt = (i : Int)) : ∃ i : Nat, i < n ∧ (if (if s = 0 then (1 : Int32) else 0) = 0 then r else 1).toInt = (i : Int) := by
  by_cases e : s = 0
  · rw [if_pos e, if_neg (by decide)]; exact ⟨1, by omega, by decide⟩
  · rw [if_neg e, if_pos rfl]
    exact h.resolve_left e
theorem own_rslot {s r : Int32} {n : Nat} (hn : 2 ≤ n) (h : r = -1 ∨ s = 0 ∨ ∃ i : Nat, i < n ∧ r.toInt = (i : Int)) : ∃ i : Nat, i < n ∧ (if r = -1 then 0 else if (if s = 0 then (1 : Int32) else 0) = 0 then r else 1).toInt = (i : Int) := by
  by_cases e : r = -1
  · rw [if_pos e]; exact ⟨0, by omega, by decide⟩
  · rw [if_neg e]; exact own_slot hn (h.resolve_left e)
set_option maxRecDepth 65536 in
set_option maxHeartbeats 40000000 in
theorem rm0 (l : Launch) (Z : State) (a0 : Array Value) (hw : ∀ d ∈ tables_1, d.before a0 Z = true) (ws : List Jvm.Cond) (q1 q2 q3 : Int32) (m : Int64) (q5 q6 : Int32) (h0 : Heap) (n0 : Nat) (Z0 : n0 ≤ h0.size) :
    oMet l b0 ws Z n0 #[.int q1, .int q2, .int q3, .long m, .int q5, .int q6] h0 (fun v h' => v = some (.int 1)) := by
  refine o_enter pn0 (Ls := #[.val (.int q1), .val (.int q2), .val (.int q3), .val (.long m), .second, .val (.int q5), .val (.int q6), .unset, .unset, .unset, .unset, .unset, .unset, .unset, .unset, .unset, .unset, .unset, .unset, .unset, .unset, .unset, .unset, .unset, .unset, .unset, .unset, .unset, .unset, .unset, .unset, .unset, .unset, .unset, .unset, .unset, .unset]) (fun m => by first | (simp [entryFrame, mkF, argsToLocals, Value.category, oBd.maxL, b0, maxLocals]; done) | rfl) ?_
  intro w T0 A0
  refine o_iloadN (q := 1) A0 at_0 rfl rfl ?_
  refine o_iconst (q := 2) (z := 3) A0 at_1 rfl rfl ?_
  refine o_iand (q := 3) A0 at_2 rfl ?_
  obtain ⟨g0, g3⟩ := own_seats q1
  generalize (q1 &&& (3 : Int32)) = se at g0 g3 ⊢
  show oFin _ _ _ _ T0 3 #[.val (.int q1), .val (.int q2), .val (.int q3), .val (.long m), .second, .val (.int q5), .val (.int q6), .unset, .unset, .unset, .unset, .unset, .unset, .unset, .unset, .unset, .unset, .unset, .unset, .unset, .unset, .unset, .unset, .unset, .unset, .unset, .unset, .unset, .unset, .unset, .unset, .unset, .unset, .unset, .unset, .unset, .unset] [.int se]
  obtain ⟨n, hn2, hn4, hnm, hny⟩ := own_nn se g0 g3
  refine o_istore (q := 5) (Ls' := #[.val (.int q1), .val (.int q2), .val (.int q3), .val (.long m), .second, .val (.int q5), .val (.int q6), .val (.int se), .unset, .unset, .unset, .unset, .unset, .unset, .unset, .unset, .unset, .unset, .unset, .unset, .unset, .unset, .unset, .unset, .unset, .unset, .unset, .unset, .unset, .unset, .unset, .unset, .unset, .unset, .unset, .unset, .unset]) A0 at_3 rfl rfl ?_
  refine o_iload (q := 7) A0 at_5 rfl rfl ?_
  refine o_iconst (q := 8) (z := 1) A0 at_7 rfl rfl ?_
  refine o_callS (q := 11) (W := 0) (k' := 0) (n' := 0) (st := []) (argsL := [.int se, .int (1 : Int32)]) (b' := b1) A0 (rm1 l Z a0 hw se 1 h0 n0) at_8 (hw _ (List.mem_of_getElem? (i := 0) rfl)) (hw _ (List.mem_of_getElem? (i := 1) rfl)) (hw _ (List.mem_of_getElem? (i := 2) rfl)) (hw _ (List.mem_of_getElem? (i := 3) rfl)) (by decide) pd1 rfl rfl rfl rfl rfl (by decide) (by decide) rfl rfl (by decide) (by decide) rfl (fun v1 T1 h1 A1 hQ1 => ?_)
  obtain ⟨rfl, rfl⟩ := hQ1
  show oFin _ _ _ _ T1 11 #[.val (.int q1), .val (.int q2), .val (.int q3), .val (.long m), .second, .val (.int q5), .val (.int q6), .val (.int se), .unset, .unset, .unset, .unset, .unset, .unset, .unset, .unset, .unset, .unset, .unset, .unset, .unset, .unset, .unset, .unset, .unset, .unset, .unset, .unset, .unset, .unset, .unset, .unset, .unset, .unset, .unset, .unset, .unset] [.int (if se < 1 then 1 else se)]
  refine o_iconst (q := 12) (z := 1) A1 at_11 rfl rfl ?_
  refine o_iadd (q := 13) A1 at_12 rfl ?_
  generalize ((if se < 1 then 1 else se) + (1 : Int32)) = nn at hny ⊢
  show oFin _ _ _ _ T1 13 #[.val (.int q1), .val (.int q2), .val (.int q3), .val (.long m), .second, .val (.int q5), .val (.int q6), .val (.int se), .unset, .unset, .unset, .unset, .unset, .unset, .unset, .unset, .unset, .unset, .unset, .unset, .unset, .unset, .unset, .unset, .unset, .unset, .unset, .unset, .unset, .unset, .unset, .unset, .unset, .unset, .unset, .unset, .unset] [.int nn]
  have hnz := own_nz hny hn2
  refine o_istore (q := 15) (Ls' := #[.val (.int q1), .val (.int q2), .val (.int q3), .val (.long m), .second, .val (.int q5), .val (.int q6), .val (.int se), .val (.int nn), .unset, .unset, .unset, .unset, .unset, .unset, .unset, .unset, .unset, .unset, .unset, .unset, .unset, .unset, .unset, .unset, .unset, .unset, .unset, .unset, .unset, .unset, .unset, .unset, .unset, .unset, .unset, .unset]) A1 at_13 rfl rfl ?_
  refine o_iloadN (q := 16) A1 at_15 rfl rfl ?_
  refine o_iconst (q := 17) (z := 4) A1 at_16 rfl rfl ?_
  refine o_iand (q := 18) A1 at_17 rfl ?_
  suffices K : ∀ sw1 : Int32, oFin w b0 n0 (fun v h' => v = some (.int 1)) T1 26 #[.val (.int q1), .val (.int q2), .val (.int q3), .val (.long m), .second, .val (.int q5), .val (.int q6), .val (.int se), .val (.int nn), .unset, .unset, .unset, .unset, .unset, .unset, .unset, .unset, .unset, .unset, .unset, .unset, .unset, .unset, .unset, .unset, .unset, .unset, .unset, .unset, .unset, .unset, .unset, .unset, .unset, .unset, .unset, .unset] [.int sw1] by
    refine o_if (q := 25) (q' := 21) A1 at_18 (by decide) (by decide) rfl (fun hc => ?_) (fun hc => ?_)
    · replace hc : (q1 &&& (4 : Int32)) = (0 : Int32) := hc
      refine o_iconst (q := 26) (z := 0) A1 at_25 rfl rfl ?_
      exact K _
    · replace hc : ¬ ((q1 &&& (4 : Int32)) = (0 : Int32)) := hc
      refine o_iconst (q := 22) (z := 1) A1 at_21 rfl rfl ?_
      refine o_goto (q := 26) A1 at_22 (by decide) (by decide) ?_
      exact K _
  intro sw1
  refine o_istore (q := 28) (Ls' := #[.val (.int q1), .val (.int q2), .val (.int q3), .val (.long m), .second, .val (.int q5), .val (.int q6), .val (.int se), .val (.int nn), .val (.int sw1), .unset, .unset, .unset, .unset, .unset, .unset, .unset, .unset, .unset, .unset, .unset, .unset, .unset, .unset, .unset, .unset, .unset, .unset, .unset, .unset, .unset, .unset, .unset, .unset, .unset, .unset, .unset]) A1 at_26 rfl rfl ?_
  refine o_iloadN (q := 29) A1 at_28 rfl rfl ?_
  refine o_bipush (q := 31) (z := 8) A1 at_29 rfl rfl ?_
  refine o_iand (q := 32) A1 at_31 rfl ?_
  suffices K : ∀ sw2 : Int32, oFin w b0 n0 (fun v h' => v = some (.int 1)) T1 40 #[.val (.int q1), .val (.int q2), .val (.int q3), .val (.long m), .second, .val (.int q5), .val (.int q6), .val (.int se), .val (.int nn), .val (.int sw1), .unset, .unset, .unset, .unset, .unset, .unset, .unset, .unset, .unset, .unset, .unset, .unset, .unset, .unset, .unset, .unset, .unset, .unset, .unset, .unset, .unset, .unset, .unset, .unset, .unset, .unset, .unset] [.int sw2] by
    refine o_if (q := 39) (q' := 35) A1 at_32 (by decide) (by decide) rfl (fun hc => ?_) (fun hc => ?_)
    · replace hc : (q1 &&& (8 : Int32)) = (0 : Int32) := hc
      refine o_iconst (q := 40) (z := 0) A1 at_39 rfl rfl ?_
      exact K _
    · replace hc : ¬ ((q1 &&& (8 : Int32)) = (0 : Int32)) := hc
      refine o_iconst (q := 36) (z := 1) A1 at_35 rfl rfl ?_
      refine o_goto (q := 40) A1 at_36 (by decide) (by decide) ?_
      exact K _
  intro sw2
  refine o_istore (q := 42) (Ls' := #[.val (.int q1), .val (.int q2), .val (.int q3), .val (.long m), .second, .val (.int q5), .val (.int q6), .val (.int se), .val (.int nn), .val (.int sw1), .val (.int sw2), .unset, .unset, .unset, .unset, .unset, .unset, .unset, .unset, .unset, .unset, .unset, .unset, .unset, .unset, .unset, .unset, .unset, .unset, .unset, .unset, .unset, .unset, .unset, .unset, .unset, .unset]) A1 at_40 rfl rfl ?_
  refine o_iloadN (q := 43) A1 at_42 rfl rfl ?_
  refine o_bipush (q := 45) (z := 16) A1 at_43 rfl rfl ?_
  refine o_iand (q := 46) A1 at_45 rfl ?_
  suffices K : ∀ swT : Int32, oFin w b0 n0 (fun v h' => v = some (.int 1)) T1 54 #[.val (.int q1), .val (.int q2), .val (.int q3), .val (.long m), .second, .val (.int q5), .val (.int q6), .val (.int se), .val (.int nn), .val (.int sw1), .val (.int sw2), .unset, .unset, .unset, .unset, .unset, .unset, .unset, .unset, .unset, .unset, .unset, .unset, .unset, .unset, .unset, .unset, .unset, .unset, .unset, .unset, .unset, .unset, .unset, .unset, .unset, .unset] [.int swT] by
    refine o_if (q := 53) (q' := 49) A1 at_46 (by decide) (by decide) rfl (fun hc => ?_) (fun hc => ?_)
    · replace hc : (q1 &&& (16 : Int32)) = (0 : Int32) := hc
      refine o_iconst (q := 54) (z := 0) A1 at_53 rfl rfl ?_
      exact K _
    · replace hc : ¬ ((q1 &&& (16 : Int32)) = (0 : Int32)) := hc
      refine o_iconst (q := 50) (z := 1) A1 at_49 rfl rfl ?_
      refine o_goto (q := 54) A1 at_50 (by decide) (by decide) ?_
      exact K _
  intro swT
  refine o_istore (q := 56) (Ls' := #[.val (.int q1), .val (.int q2), .val (.int q3), .val (.long m), .second, .val (.int q5), .val (.int q6), .val (.int se), .val (.int nn), .val (.int sw1), .val (.int sw2), .val (.int swT), .unset, .unset, .unset, .unset, .unset, .unset, .unset, .unset, .unset, .unset, .unset, .unset, .unset, .unset, .unset, .unset, .unset, .unset, .unset, .unset, .unset, .unset, .unset, .unset, .unset]) A1 at_54 rfl rfl ?_
  refine o_iloadN (q := 57) A1 at_56 rfl rfl ?_
  refine o_bipush (q := 59) (z := 32) A1 at_57 rfl rfl ?_
  refine o_iand (q := 60) A1 at_59 rfl ?_
  suffices K : ∀ ds : Int32, oFin w b0 n0 (fun v h' => v = some (.int 1)) T1 68 #[.val (.int q1), .val (.int q2), .val (.int q3), .val (.long m), .second, .val (.int q5), .val (.int q6), .val (.int se), .val (.int nn), .val (.int sw1), .val (.int sw2), .val (.int swT), .unset, .unset, .unset, .unset, .unset, .unset, .unset, .unset, .unset, .unset, .unset, .unset, .unset, .unset, .unset, .unset, .unset, .unset, .unset, .unset, .unset, .unset, .unset, .unset, .unset] [.int ds] by
    refine o_if (q := 67) (q' := 63) A1 at_60 (by decide) (by decide) rfl (fun hc => ?_) (fun hc => ?_)
    · replace hc : (q1 &&& (32 : Int32)) = (0 : Int32) := hc
      refine o_iconst (q := 68) (z := 0) A1 at_67 rfl rfl ?_
      exact K _
    · replace hc : ¬ ((q1 &&& (32 : Int32)) = (0 : Int32)) := hc
      refine o_iconst (q := 64) (z := 1) A1 at_63 rfl rfl ?_
      refine o_goto (q := 68) A1 at_64 (by decide) (by decide) ?_
      exact K _
  intro ds
  refine o_istore (q := 70) (Ls' := #[.val (.int q1), .val (.int q2), .val (.int q3), .val (.long m), .second, .val (.int q5), .val (.int q6), .val (.int se), .val (.int nn), .val (.int sw1), .val (.int sw2), .val (.int swT), .val (.int ds), .unset, .unset, .unset, .unset, .unset, .unset, .unset, .unset, .unset, .unset, .unset, .unset, .unset, .unset, .unset, .unset, .unset, .unset, .unset, .unset, .unset, .unset, .unset, .unset]) A1 at_68 rfl rfl ?_
  refine o_iloadN (q := 71) A1 at_70 rfl rfl ?_
  refine o_bipush (q := 73) (z := 64) A1 at_71 rfl rfl ?_
  refine o_iand (q := 74) A1 at_73 rfl ?_
  suffices K : ∀ dd : Int32, oFin w b0 n0 (fun v h' => v = some (.int 1)) T1 82 #[.val (.int q1), .val (.int q2), .val (.int q3), .val (.long m), .second, .val (.int q5), .val (.int q6), .val (.int se), .val (.int nn), .val (.int sw1), .val (.int sw2), .val (.int swT), .val (.int ds), .unset, .unset, .unset, .unset, .unset, .unset, .unset, .unset, .unset, .unset, .unset, .unset, .unset, .unset, .unset, .unset, .unset, .unset, .unset, .unset, .unset, .unset, .unset, .unset] [.int dd] by
    refine o_if (q := 81) (q' := 77) A1 at_74 (by decide) (by decide) rfl (fun hc => ?_) (fun hc => ?_)
    · replace hc : (q1 &&& (64 : Int32)) = (0 : Int32) := hc
      refine o_iconst (q := 82) (z := 0) A1 at_81 rfl rfl ?_
      exact K _
    · replace hc : ¬ ((q1 &&& (64 : Int32)) = (0 : Int32)) := hc
      refine o_iconst (q := 78) (z := 1) A1 at_77 rfl rfl ?_
      refine o_goto (q := 82) A1 at_78 (by decide) (by decide) ?_
      exact K _
  intro dd
  refine o_istore (q := 84) (Ls' := #[.val (.int q1), .val (.int q2), .val (.int q3), .val (.long m), .second, .val (.int q5), .val (.int q6), .val (.int se), .val (.int nn), .val (.int sw1), .val (.int sw2), .val (.int swT), .val (.int ds), .val (.int dd), .unset, .unset, .unset, .unset, .unset, .unset, .unset, .unset, .unset, .unset, .unset, .unset, .unset, .unset, .unset, .unset, .unset, .unset, .unset, .unset, .unset, .unset, .unset]) A1 at_82 rfl rfl ?_
  refine o_iloadN (q := 85) A1 at_84 rfl rfl ?_
  refine o_sipush (q := 88) (z := 128) A1 at_85 rfl rfl ?_
  refine o_iand (q := 89) A1 at_88 rfl ?_
  suffices K : ∀ ch : Int32, oFin w b0 n0 (fun v h' => v = some (.int 1)) T1 97 #[.val (.int q1), .val (.int q2), .val (.int q3), .val (.long m), .second, .val (.int q5), .val (.int q6), .val (.int se), .val (.int nn), .val (.int sw1), .val (.int sw2), .val (.int swT), .val (.int ds), .val (.int dd), .unset, .unset, .unset, .unset, .unset, .unset, .unset, .unset, .unset, .unset, .unset, .unset, .unset, .unset, .unset, .unset, .unset, .unset, .unset, .unset, .unset, .unset, .unset] [.int ch] by
    refine o_if (q := 96) (q' := 92) A1 at_89 (by decide) (by decide) rfl (fun hc => ?_) (fun hc => ?_)
    · replace hc : (q1 &&& (128 : Int32)) = (0 : Int32) := hc
      refine o_iconst (q := 97) (z := -1) A1 at_96 rfl rfl ?_
      exact K _
    · replace hc : ¬ ((q1 &&& (128 : Int32)) = (0 : Int32)) := hc
      refine o_iconst (q := 93) (z := 1) A1 at_92 rfl rfl ?_
      refine o_goto (q := 97) A1 at_93 (by decide) (by decide) ?_
      exact K _
  intro ch
  refine o_istore (q := 99) (Ls' := #[.val (.int q1), .val (.int q2), .val (.int q3), .val (.long m), .second, .val (.int q5), .val (.int q6), .val (.int se), .val (.int nn), .val (.int sw1), .val (.int sw2), .val (.int swT), .val (.int ds), .val (.int dd), .val (.int ch), .unset, .unset, .unset, .unset, .unset, .unset, .unset, .unset, .unset, .unset, .unset, .unset, .unset, .unset, .unset, .unset, .unset, .unset, .unset, .unset, .unset, .unset]) A1 at_97 rfl rfl ?_
  refine o_iloadN (q := 100) A1 at_99 rfl rfl ?_
  refine o_sipush (q := 103) (z := 256) A1 at_100 rfl rfl ?_
  refine o_iand (q := 104) A1 at_103 rfl ?_
  suffices K : ∀ rl : Int32, oFin w b0 n0 (fun v h' => v = some (.int 1)) T1 112 #[.val (.int q1), .val (.int q2), .val (.int q3), .val (.long m), .second, .val (.int q5), .val (.int q6), .val (.int se), .val (.int nn), .val (.int sw1), .val (.int sw2), .val (.int swT), .val (.int ds), .val (.int dd), .val (.int ch), .unset, .unset, .unset, .unset, .unset, .unset, .unset, .unset, .unset, .unset, .unset, .unset, .unset, .unset, .unset, .unset, .unset, .unset, .unset, .unset, .unset, .unset] [.int rl] by
    refine o_if (q := 111) (q' := 107) A1 at_104 (by decide) (by decide) rfl (fun hc => ?_) (fun hc => ?_)
    · replace hc : (q1 &&& (256 : Int32)) = (0 : Int32) := hc
      refine o_iconst (q := 112) (z := 0) A1 at_111 rfl rfl ?_
      exact K _
    · replace hc : ¬ ((q1 &&& (256 : Int32)) = (0 : Int32)) := hc
      refine o_iconst (q := 108) (z := 1) A1 at_107 rfl rfl ?_
      refine o_goto (q := 112) A1 at_108 (by decide) (by decide) ?_
      exact K _
  intro rl
  refine o_istore (q := 114) (Ls' := #[.val (.int q1), .val (.int q2), .val (.int q3), .val (.long m), .second, .val (.int q5), .val (.int q6), .val (.int se), .val (.int nn), .val (.int sw1), .val (.int sw2), .val (.int swT), .val (.int ds), .val (.int dd), .val (.int ch), .val (.int rl), .unset, .unset, .unset, .unset, .unset, .unset, .unset, .unset, .unset, .unset, .unset, .unset, .unset, .unset, .unset, .unset, .unset, .unset, .unset, .unset, .unset]) A1 at_112 rfl rfl ?_
  refine o_iloadN (q := 115) A1 at_114 rfl rfl ?_
  refine o_bipush (q := 117) (z := 9) A1 at_115 rfl rfl ?_
  refine o_iushr (q := 118) A1 at_117 rfl ?_
  refine o_iconst (q := 119) (z := 3) A1 at_118 rfl rfl ?_
  refine o_iand (q := 120) A1 at_119 rfl ?_
  generalize (((q1).toUInt32 >>> ((9 : Int32) &&& 31).toUInt32).toInt32 &&& (3 : Int32)) = sel
  show oFin _ _ _ _ T1 120 #[.val (.int q1), .val (.int q2), .val (.int q3), .val (.long m), .second, .val (.int q5), .val (.int q6), .val (.int se), .val (.int nn), .val (.int sw1), .val (.int sw2), .val (.int swT), .val (.int ds), .val (.int dd), .val (.int ch), .val (.int rl), .unset, .unset, .unset, .unset, .unset, .unset, .unset, .unset, .unset, .unset, .unset, .unset, .unset, .unset, .unset, .unset, .unset, .unset, .unset, .unset, .unset] [.int sel]
  refine o_istore (q := 122) (Ls' := #[.val (.int q1), .val (.int q2), .val (.int q3), .val (.long m), .second, .val (.int q5), .val (.int q6), .val (.int se), .val (.int nn), .val (.int sw1), .val (.int sw2), .val (.int swT), .val (.int ds), .val (.int dd), .val (.int ch), .val (.int rl), .val (.int sel), .unset, .unset, .unset, .unset, .unset, .unset, .unset, .unset, .unset, .unset, .unset, .unset, .unset, .unset, .unset, .unset, .unset, .unset, .unset, .unset]) A1 at_120 rfl rfl ?_
  refine o_iloadN (q := 123) A1 at_122 rfl rfl ?_
  refine o_sipush (q := 126) (z := 255) A1 at_123 rfl rfl ?_
  refine o_iand (q := 127) A1 at_126 rfl ?_
  refine o_iload (q := 129) A1 at_127 rfl rfl ?_
  refine o_irem (q := 130) A1 at_129 hnz rfl ?_
  obtain ⟨i1, li1, hs1⟩ := own_rem (own_m8 q2) hny hn2
  generalize ((q2 &&& (255 : Int32)) % nn) = s1 at hs1 ⊢
  show oFin _ _ _ _ T1 130 #[.val (.int q1), .val (.int q2), .val (.int q3), .val (.long m), .second, .val (.int q5), .val (.int q6), .val (.int se), .val (.int nn), .val (.int sw1), .val (.int sw2), .val (.int swT), .val (.int ds), .val (.int dd), .val (.int ch), .val (.int rl), .val (.int sel), .unset, .unset, .unset, .unset, .unset, .unset, .unset, .unset, .unset, .unset, .unset, .unset, .unset, .unset, .unset, .unset, .unset, .unset, .unset, .unset] [.int s1]
  refine o_istore (q := 132) (Ls' := #[.val (.int q1), .val (.int q2), .val (.int q3), .val (.long m), .second, .val (.int q5), .val (.int q6), .val (.int se), .val (.int nn), .val (.int sw1), .val (.int sw2), .val (.int swT), .val (.int ds), .val (.int dd), .val (.int ch), .val (.int rl), .val (.int sel), .val (.int s1), .unset, .unset, .unset, .unset, .unset, .unset, .unset, .unset, .unset, .unset, .unset, .unset, .unset, .unset, .unset, .unset, .unset, .unset, .unset]) A1 at_130 rfl rfl ?_
  refine o_iloadN (q := 133) A1 at_132 rfl rfl ?_
  refine o_bipush (q := 135) (z := 8) A1 at_133 rfl rfl ?_
  refine o_iushr (q := 136) A1 at_135 rfl ?_
  refine o_sipush (q := 139) (z := 255) A1 at_136 rfl rfl ?_
  refine o_iand (q := 140) A1 at_139 rfl ?_
  refine o_iload (q := 142) A1 at_140 rfl rfl ?_
  refine o_irem (q := 143) A1 at_142 hnz rfl ?_
  obtain ⟨i2, li2, hs2⟩ := own_rem (own_m8 (((q2).toUInt32 >>> ((8 : Int32) &&& 31).toUInt32).toInt32)) hny hn2
  generalize ((((q2).toUInt32 >>> ((8 : Int32) &&& 31).toUInt32).toInt32 &&& (255 : Int32)) % nn) = s2 at hs2 ⊢
  show oFin _ _ _ _ T1 143 #[.val (.int q1), .val (.int q2), .val (.int q3), .val (.long m), .second, .val (.int q5), .val (.int q6), .val (.int se), .val (.int nn), .val (.int sw1), .val (.int sw2), .val (.int swT), .val (.int ds), .val (.int dd), .val (.int ch), .val (.int rl), .val (.int sel), .val (.int s1), .unset, .unset, .unset, .unset, .unset, .unset, .unset, .unset, .unset, .unset, .unset, .unset, .unset, .unset, .unset, .unset, .unset, .unset, .unset] [.int s2]
  refine o_istore (q := 145) (Ls' := #[.val (.int q1), .val (.int q2), .val (.int q3), .val (.long m), .second, .val (.int q5), .val (.int q6), .val (.int se), .val (.int nn), .val (.int sw1), .val (.int sw2), .val (.int swT), .val (.int ds), .val (.int dd), .val (.int ch), .val (.int rl), .val (.int sel), .val (.int s1), .val (.int s2), .unset, .unset, .unset, .unset, .unset, .unset, .unset, .unset, .unset, .unset, .unset, .unset, .unset, .unset, .unset, .unset, .unset, .unset]) A1 at_143 rfl rfl ?_
  refine o_iloadN (q := 146) A1 at_145 rfl rfl ?_
  refine o_bipush (q := 148) (z := 16) A1 at_146 rfl rfl ?_
  refine o_iushr (q := 149) A1 at_148 rfl ?_
  refine o_sipush (q := 152) (z := 255) A1 at_149 rfl rfl ?_
  refine o_iand (q := 153) A1 at_152 rfl ?_
  refine o_iload (q := 155) A1 at_153 rfl rfl ?_
  refine o_irem (q := 156) A1 at_155 hnz rfl ?_
  obtain ⟨iT, liT, hsT⟩ := own_rem (own_m8 (((q2).toUInt32 >>> ((16 : Int32) &&& 31).toUInt32).toInt32)) hny hn2
  generalize ((((q2).toUInt32 >>> ((16 : Int32) &&& 31).toUInt32).toInt32 &&& (255 : Int32)) % nn) = sT at hsT ⊢
  show oFin _ _ _ _ T1 156 #[.val (.int q1), .val (.int q2), .val (.int q3), .val (.long m), .second, .val (.int q5), .val (.int q6), .val (.int se), .val (.int nn), .val (.int sw1), .val (.int sw2), .val (.int swT), .val (.int ds), .val (.int dd), .val (.int ch), .val (.int rl), .val (.int sel), .val (.int s1), .val (.int s2), .unset, .unset, .unset, .unset, .unset, .unset, .unset, .unset, .unset, .unset, .unset, .unset, .unset, .unset, .unset, .unset, .unset, .unset] [.int sT]
  refine o_istore (q := 158) (Ls' := #[.val (.int q1), .val (.int q2), .val (.int q3), .val (.long m), .second, .val (.int q5), .val (.int q6), .val (.int se), .val (.int nn), .val (.int sw1), .val (.int sw2), .val (.int swT), .val (.int ds), .val (.int dd), .val (.int ch), .val (.int rl), .val (.int sel), .val (.int s1), .val (.int s2), .val (.int sT), .unset, .unset, .unset, .unset, .unset, .unset, .unset, .unset, .unset, .unset, .unset, .unset, .unset, .unset, .unset, .unset, .unset]) A1 at_156 rfl rfl ?_
  refine o_iloadN (q := 159) A1 at_158 rfl rfl ?_
  refine o_bipush (q := 161) (z := 24) A1 at_159 rfl rfl ?_
  refine o_iushr (q := 162) A1 at_161 rfl ?_
  refine o_sipush (q := 165) (z := 255) A1 at_162 rfl rfl ?_
  refine o_iand (q := 166) A1 at_165 rfl ?_
  refine o_iload (q := 168) A1 at_166 rfl rfl ?_
  refine o_irem (q := 169) A1 at_168 hnz rfl ?_
  obtain ⟨iP, liP, hsP⟩ := own_rem (own_m8 (((q2).toUInt32 >>> ((24 : Int32) &&& 31).toUInt32).toInt32)) hny hn2
  generalize ((((q2).toUInt32 >>> ((24 : Int32) &&& 31).toUInt32).toInt32 &&& (255 : Int32)) % nn) = sP at hsP ⊢
  show oFin _ _ _ _ T1 169 #[.val (.int q1), .val (.int q2), .val (.int q3), .val (.long m), .second, .val (.int q5), .val (.int q6), .val (.int se), .val (.int nn), .val (.int sw1), .val (.int sw2), .val (.int swT), .val (.int ds), .val (.int dd), .val (.int ch), .val (.int rl), .val (.int sel), .val (.int s1), .val (.int s2), .val (.int sT), .unset, .unset, .unset, .unset, .unset, .unset, .unset, .unset, .unset, .unset, .unset, .unset, .unset, .unset, .unset, .unset, .unset] [.int sP]
  refine o_istore (q := 171) (Ls' := #[.val (.int q1), .val (.int q2), .val (.int q3), .val (.long m), .second, .val (.int q5), .val (.int q6), .val (.int se), .val (.int nn), .val (.int sw1), .val (.int sw2), .val (.int swT), .val (.int ds), .val (.int dd), .val (.int ch), .val (.int rl), .val (.int sel), .val (.int s1), .val (.int s2), .val (.int sT), .val (.int sP), .unset, .unset, .unset, .unset, .unset, .unset, .unset, .unset, .unset, .unset, .unset, .unset, .unset, .unset, .unset, .unset]) A1 at_169 rfl rfl ?_
  refine o_iload (q := 173) A1 at_171 rfl rfl ?_
  refine o_sipush (q := 176) (z := 255) A1 at_173 rfl rfl ?_
  refine o_iand (q := 177) A1 at_176 rfl ?_
  refine o_iload (q := 179) A1 at_177 rfl rfl ?_
  refine o_irem (q := 180) A1 at_179 hnz rfl ?_
  obtain ⟨iD, liD, hsD⟩ := own_rem (own_m8 q6) hny hn2
  generalize ((q6 &&& (255 : Int32)) % nn) = sD at hsD ⊢
  show oFin _ _ _ _ T1 180 #[.val (.int q1), .val (.int q2), .val (.int q3), .val (.long m), .second, .val (.int q5), .val (.int q6), .val (.int se), .val (.int nn), .val (.int sw1), .val (.int sw2), .val (.int swT), .val (.int ds), .val (.int dd), .val (.int ch), .val (.int rl), .val (.int sel), .val (.int s1), .val (.int s2), .val (.int sT), .val (.int sP), .unset, .unset, .unset, .unset, .unset, .unset, .unset, .unset, .unset, .unset, .unset, .unset, .unset, .unset, .unset, .unset] [.int sD]
  refine o_istore (q := 182) (Ls' := #[.val (.int q1), .val (.int q2), .val (.int q3), .val (.long m), .second, .val (.int q5), .val (.int q6), .val (.int se), .val (.int nn), .val (.int sw1), .val (.int sw2), .val (.int swT), .val (.int ds), .val (.int dd), .val (.int ch), .val (.int rl), .val (.int sel), .val (.int s1), .val (.int s2), .val (.int sT), .val (.int sP), .val (.int sD), .unset, .unset, .unset, .unset, .unset, .unset, .unset, .unset, .unset, .unset, .unset, .unset, .unset, .unset, .unset]) A1 at_180 rfl rfl ?_
  refine o_iload (q := 184) A1 at_182 rfl rfl ?_
  suffices K : ∀ rn : Int32, (se = 0 ∨ ∃ i : Nat, i < n ∧ rn.toInt = (i : Int)) → oFin w b0 n0 (fun v h' => v = some (.int 1)) T1 200 #[.val (.int q1), .val (.int q2), .val (.int q3), .val (.long m), .second, .val (.int q5), .val (.int q6), .val (.int se), .val (.int nn), .val (.int sw1), .val (.int sw2), .val (.int swT), .val (.int ds), .val (.int dd), .val (.int ch), .val (.int rl), .val (.int sel), .val (.int s1), .val (.int s2), .val (.int sT), .val (.int sP), .val (.int sD), .unset, .unset, .unset, .unset, .unset, .unset, .unset, .unset, .unset, .unset, .unset, .unset, .unset, .unset, .unset] [.int rn] by
    refine o_if (q := 192) (q' := 187) A1 at_184 (by decide) (by decide) rfl (fun hc => ?_) (fun hc => ?_)
    · replace hc : se ≠ (0 : Int32) := hc
      refine o_iload (q := 194) A1 at_192 rfl rfl ?_
      refine o_ldc (q := 196) A1 at_194 (hw _ (List.mem_of_getElem? (i := 53) rfl)) rfl ?_
      refine o_iand (q := 197) A1 at_196 rfl ?_
      refine o_iload (q := 199) A1 at_197 rfl rfl ?_
      refine o_irem (q := 200) A1 at_199 hnz rfl ?_
      exact K _ (Or.inr (own_rem (own_m31 q5) hny hn2))
    · replace hc : ¬ (se ≠ (0 : Int32)) := hc
      refine o_iload (q := 189) A1 at_187 rfl rfl ?_
      refine o_goto (q := 200) A1 at_189 (by decide) (by decide) ?_
      exact K _ (Or.inl (Classical.not_not.mp hc))
  intro rn hrn
  refine o_istore (q := 202) (Ls' := #[.val (.int q1), .val (.int q2), .val (.int q3), .val (.long m), .second, .val (.int q5), .val (.int q6), .val (.int se), .val (.int nn), .val (.int sw1), .val (.int sw2), .val (.int swT), .val (.int ds), .val (.int dd), .val (.int ch), .val (.int rl), .val (.int sel), .val (.int s1), .val (.int s2), .val (.int sT), .val (.int sP), .val (.int sD), .val (.int rn), .unset, .unset, .unset, .unset, .unset, .unset, .unset, .unset, .unset, .unset, .unset, .unset, .unset, .unset]) A1 at_200 rfl rfl ?_
  refine o_iload (q := 204) A1 at_202 rfl rfl ?_
  suffices K : ∀ md : Int32, oFin w b0 n0 (fun v h' => v = some (.int 1)) T1 227 #[.val (.int q1), .val (.int q2), .val (.int q3), .val (.long m), .second, .val (.int q5), .val (.int q6), .val (.int se), .val (.int nn), .val (.int sw1), .val (.int sw2), .val (.int swT), .val (.int ds), .val (.int dd), .val (.int ch), .val (.int rl), .val (.int sel), .val (.int s1), .val (.int s2), .val (.int sT), .val (.int sP), .val (.int sD), .val (.int rn), .unset, .unset, .unset, .unset, .unset, .unset, .unset, .unset, .unset, .unset, .unset, .unset, .unset, .unset] [.int md] by
    refine o_if (q := 211) (q' := 207) A1 at_204 (by decide) (by decide) rfl (fun hc => ?_) (fun hc => ?_)
    · replace hc : sel ≠ (0 : Int32) := hc
      refine o_iload (q := 213) A1 at_211 rfl rfl ?_
      refine o_iconst (q := 214) (z := 1) A1 at_213 rfl rfl ?_
      refine o_icmp (q := 222) (q' := 217) A1 at_214 (by decide) (by decide) rfl (fun hd => ?_) (fun hd => ?_)
      · replace hd : sel ≠ (1 : Int32) := hd
        refine o_iload (q := 224) A1 at_222 rfl rfl ?_
        refine o_bipush (q := 226) (z := 16) A1 at_224 rfl rfl ?_
        refine o_ishr (q := 227) A1 at_226 rfl ?_
        exact K _
      · replace hd : ¬ (sel ≠ (1 : Int32)) := hd
        refine o_iload (q := 219) A1 at_217 rfl rfl ?_
        refine o_goto (q := 227) A1 at_219 (by decide) (by decide) ?_
        exact K _
    · replace hc : ¬ (sel ≠ (0 : Int32)) := hc
      refine o_iconst (q := 208) (z := 0) A1 at_207 rfl rfl ?_
      refine o_goto (q := 227) A1 at_208 (by decide) (by decide) ?_
      exact K _
  intro md
  refine o_istore (q := 229) (Ls' := #[.val (.int q1), .val (.int q2), .val (.int q3), .val (.long m), .second, .val (.int q5), .val (.int q6), .val (.int se), .val (.int nn), .val (.int sw1), .val (.int sw2), .val (.int swT), .val (.int ds), .val (.int dd), .val (.int ch), .val (.int rl), .val (.int sel), .val (.int s1), .val (.int s2), .val (.int sT), .val (.int sP), .val (.int sD), .val (.int rn), .val (.int md), .unset, .unset, .unset, .unset, .unset, .unset, .unset, .unset, .unset, .unset, .unset, .unset, .unset]) A1 at_227 rfl rfl ?_
  refine o_iload (q := 231) A1 at_229 rfl rfl ?_
  suffices K : ∀ rr : Int32, (rr = -1 ∨ se = 0 ∨ ∃ i : Nat, i < n ∧ rr.toInt = (i : Int)) → oFin w b0 n0 (fun v h' => v = some (.int 1)) T1 263 #[.val (.int q1), .val (.int q2), .val (.int q3), .val (.long m), .second, .val (.int q5), .val (.int q6), .val (.int se), .val (.int nn), .val (.int sw1), .val (.int sw2), .val (.int swT), .val (.int ds), .val (.int dd), .val (.int ch), .val (.int rl), .val (.int sel), .val (.int s1), .val (.int s2), .val (.int sT), .val (.int sP), .val (.int sD), .val (.int rn), .val (.int md), .unset, .unset, .unset, .unset, .unset, .unset, .unset, .unset, .unset, .unset, .unset, .unset, .unset] [.int rr] by
    refine o_if (q := 238) (q' := 234) A1 at_231 (by decide) (by decide) rfl (fun hc => ?_) (fun hc => ?_)
    · replace hc : rl = (0 : Int32) := hc
      refine o_iload (q := 240) A1 at_238 rfl rfl ?_
      refine o_if (q := 251) (q' := 243) A1 at_240 (by decide) (by decide) rfl (fun hd => ?_) (fun hd => ?_)
      · replace hd : se ≠ (0 : Int32) := hd
        refine o_iload (q := 253) A1 at_251 rfl rfl ?_
        refine o_bipush (q := 255) (z := 8) A1 at_253 rfl rfl ?_
        refine o_iushr (q := 256) A1 at_255 rfl ?_
        refine o_sipush (q := 259) (z := 255) A1 at_256 rfl rfl ?_
        refine o_iand (q := 260) A1 at_259 rfl ?_
        refine o_iload (q := 262) A1 at_260 rfl rfl ?_
        refine o_irem (q := 263) A1 at_262 hnz rfl ?_
        exact K _ (Or.inr (Or.inr (own_rem (own_m8 _) hny hn2)))
      · replace hd : ¬ (se ≠ (0 : Int32)) := hd
        refine o_iload (q := 245) A1 at_243 rfl rfl ?_
        refine o_bipush (q := 247) (z := 8) A1 at_245 rfl rfl ?_
        refine o_ishr (q := 248) A1 at_247 rfl ?_
        refine o_goto (q := 263) A1 at_248 (by decide) (by decide) ?_
        exact K _ (Or.inr (Or.inl (Classical.not_not.mp hd)))
    · replace hc : ¬ (rl = (0 : Int32)) := hc
      refine o_iconst (q := 235) (z := -1) A1 at_234 rfl rfl ?_
      refine o_goto (q := 263) A1 at_235 (by decide) (by decide) ?_
      exact K _ (Or.inl rfl)
  intro rr hrr
  obtain ⟨iS, lS, hS⟩ := own_slot hn2 hrn
  obtain ⟨iR, lR, hR⟩ := own_rslot hn2 hrr
  refine o_istore (q := 265) (Ls' := #[.val (.int q1), .val (.int q2), .val (.int q3), .val (.long m), .second, .val (.int q5), .val (.int q6), .val (.int se), .val (.int nn), .val (.int sw1), .val (.int sw2), .val (.int swT), .val (.int ds), .val (.int dd), .val (.int ch), .val (.int rl), .val (.int sel), .val (.int s1), .val (.int s2), .val (.int sT), .val (.int sP), .val (.int sD), .val (.int rn), .val (.int md), .val (.int rr), .unset, .unset, .unset, .unset, .unset, .unset, .unset, .unset, .unset, .unset, .unset, .unset]) A1 at_263 rfl rfl ?_
  refine o_newO (q := 268) (k' := 1) (n' := 2) A1 at_265 (hw _ (List.mem_of_getElem? (i := 4) rfl)) (hw _ (List.mem_of_getElem? (i := 5) rfl)) (hw _ (List.mem_of_getElem? (i := 6) rfl)) rfl rfl (by decide) (by decide) rfl (fun T2 h2 t gt A2 X2 Et Dt => ?_)
  have F1 : Fld Z h2 t "com/example/tideloom/tideloom/Tally" "oneRunner" "Z" (.int 0) := Dt (Or.inr (hw _ (List.mem_of_getElem? (i := 14) rfl))) (ty := .boolean) (by decide)
  have F2 : Fld Z h2 t "com/example/tideloom/tideloom/Tally" "counts" "[J" .null := Dt (Or.inr (hw _ (List.mem_of_getElem? (i := 18) rfl))) (ty := .array .long) (by decide)
  have ht : n0 ≤ t := by rw [gt]; exact Z0
  have Z2 : n0 ≤ h2.size := Nat.le_trans Z0 X2.1
  refine o_dup (q := 269) A2 at_268 rfl rfl ?_
  refine o_iload (q := 271) A2 at_269 rfl rfl ?_
  refine o_callC (q := 274) (W := 1) (k' := 2) (n' := 66) (st := [.ref t]) (argsL := [.int se]) (b' := b2) (a := t) A2 (rm2 l Z a0 hw t se n h2 n0 Z2 Et F1 F2 ht hnm hn4) at_271 rfl (hw _ (List.mem_of_getElem? (i := 7) rfl)) (hw _ (List.mem_of_getElem? (i := 8) rfl)) (hw _ (List.mem_of_getElem? (i := 6) rfl)) (hw _ (List.mem_of_getElem? (i := 9) rfl)) rfl (by decide) pd2 rfl rfl rfl rfl rfl (by decide) (by decide) rfl rfl (by decide) (by decide) rfl (fun v3 T3 h3 A3 hQ3 => ?_)
  obtain ⟨rfl, ca, I0⟩ := hQ3
  show oFin _ _ _ _ T3 274 #[.val (.int q1), .val (.int q2), .val (.int q3), .val (.long m), .second, .val (.int q5), .val (.int q6), .val (.int se), .val (.int nn), .val (.int sw1), .val (.int sw2), .val (.int swT), .val (.int ds), .val (.int dd), .val (.int ch), .val (.int rl), .val (.int sel), .val (.int s1), .val (.int s2), .val (.int sT), .val (.int sP), .val (.int sD), .val (.int rn), .val (.int md), .val (.int rr), .unset, .unset, .unset, .unset, .unset, .unset, .unset, .unset, .unset, .unset, .unset, .unset] [.ref t]
  obtain ⟨o, ho⟩ : ∃ z : Int32, z = if se = 0 then 1 else 0 := ⟨_, rfl⟩
  rw [← ho] at I0 hS hR
  obtain ⟨f0, hf0⟩ : ∃ f : Nat → Int64, f = fun _ => 0 := ⟨_, rfl⟩
  rw [← hf0] at I0
  have c0 : ∀ k, k < 16 → own_col f0 k n = 0 := fun k _ => by rw [hf0]; exact own_col0 k n
  refine o_astore (q := 276) (Ls' := #[.val (.int q1), .val (.int q2), .val (.int q3), .val (.long m), .second, .val (.int q5), .val (.int q6), .val (.int se), .val (.int nn), .val (.int sw1), .val (.int sw2), .val (.int swT), .val (.int ds), .val (.int dd), .val (.int ch), .val (.int rl), .val (.int sel), .val (.int s1), .val (.int s2), .val (.int sT), .val (.int sP), .val (.int sD), .val (.int rn), .val (.int md), .val (.int rr), .val (.ref t), .unset, .unset, .unset, .unset, .unset, .unset, .unset, .unset, .unset, .unset, .unset]) A3 at_274 rfl rfl rfl ?_
  refine o_aload (q := 278) A3 at_276 rfl rfl rfl ?_
  refine o_iload (q := 280) A3 at_278 rfl rfl ?_
  refine o_iload (q := 282) A3 at_280 rfl rfl ?_
  refine o_callV (q := 285) (W := 0) (k' := 2) (n' := 66) (st := []) (argsL := [.int s1, .int sw1]) (b' := b4) A3 (rm4 l Z a0 hw t ca s1 sw1 i1 o n f0 h3 n0 I0 hs1 li1 hn4) at_282 I0.1 (hw _ (List.mem_of_getElem? (i := 19) rfl)) (hw _ (List.mem_of_getElem? (i := 20) rfl)) (hw _ (List.mem_of_getElem? (i := 22) rfl)) (hw _ (List.mem_of_getElem? (i := 21) rfl)) (hw _ (List.mem_of_getElem? (i := 6) rfl)) (hw _ (List.mem_of_getElem? (i := 23) rfl)) (by decide) pd4 rfl rfl rfl rfl rfl (by decide) (by decide) rfl rfl (by decide) (by decide) rfl (fun v4 T4 h4 A4 hQ4 => ?_)
  obtain ⟨rfl, I1⟩ := hQ4
  show oFin _ _ _ _ T4 285 #[.val (.int q1), .val (.int q2), .val (.int q3), .val (.long m), .second, .val (.int q5), .val (.int q6), .val (.int se), .val (.int nn), .val (.int sw1), .val (.int sw2), .val (.int swT), .val (.int ds), .val (.int dd), .val (.int ch), .val (.int rl), .val (.int sel), .val (.int s1), .val (.int s2), .val (.int sT), .val (.int sP), .val (.int sD), .val (.int rn), .val (.int md), .val (.int rr), .val (.ref t), .unset, .unset, .unset, .unset, .unset, .unset, .unset, .unset, .unset, .unset, .unset] []
  obtain ⟨f1, hf1⟩ : ∃ f : Nat → Int64, f = own_upd (own_upd f0 (16 * i1 + 0) 1) (16 * i1 + 1) (if sw1 = 0 then 0 else 1) := ⟨_, rfl⟩
  rw [← hf1] at I1
  have c1 : ∀ k, k < 16 → own_col f1 k n = own_col f0 k n + (if k = 0 then 1 else 0) + (if k = 1 then (if sw1 = 0 then 0 else 1) else 0) := fun k hk => by rw [hf1, own_cu _ i1 k 1 _ n hk (by decide) li1, own_cu _ i1 k 0 _ n hk (by decide) li1]
  refine o_aload (q := 287) A4 at_285 rfl rfl rfl ?_
  refine o_iload (q := 289) A4 at_287 rfl rfl ?_
  refine o_iload (q := 291) A4 at_289 rfl rfl ?_
  refine o_callV (q := 294) (W := 0) (k' := 2) (n' := 66) (st := []) (argsL := [.int s2, .int sw2]) (b' := b4) A4 (rm4 l Z a0 hw t ca s2 sw2 i2 o n f1 h4 n0 I1 hs2 li2 hn4) at_291 I1.1 (hw _ (List.mem_of_getElem? (i := 19) rfl)) (hw _ (List.mem_of_getElem? (i := 20) rfl)) (hw _ (List.mem_of_getElem? (i := 22) rfl)) (hw _ (List.mem_of_getElem? (i := 21) rfl)) (hw _ (List.mem_of_getElem? (i := 6) rfl)) (hw _ (List.mem_of_getElem? (i := 23) rfl)) (by decide) pd4 rfl rfl rfl rfl rfl (by decide) (by decide) rfl rfl (by decide) (by decide) rfl (fun v5 T5 h5 A5 hQ5 => ?_)
  obtain ⟨rfl, I2⟩ := hQ5
  show oFin _ _ _ _ T5 294 #[.val (.int q1), .val (.int q2), .val (.int q3), .val (.long m), .second, .val (.int q5), .val (.int q6), .val (.int se), .val (.int nn), .val (.int sw1), .val (.int sw2), .val (.int swT), .val (.int ds), .val (.int dd), .val (.int ch), .val (.int rl), .val (.int sel), .val (.int s1), .val (.int s2), .val (.int sT), .val (.int sP), .val (.int sD), .val (.int rn), .val (.int md), .val (.int rr), .val (.ref t), .unset, .unset, .unset, .unset, .unset, .unset, .unset, .unset, .unset, .unset, .unset] []
  obtain ⟨f2, hf2⟩ : ∃ f : Nat → Int64, f = own_upd (own_upd f1 (16 * i2 + 0) 1) (16 * i2 + 1) (if sw2 = 0 then 0 else 1) := ⟨_, rfl⟩
  rw [← hf2] at I2
  have c2 : ∀ k, k < 16 → own_col f2 k n = own_col f1 k n + (if k = 0 then 1 else 0) + (if k = 1 then (if sw2 = 0 then 0 else 1) else 0) := fun k hk => by rw [hf2, own_cu _ i2 k 1 _ n hk (by decide) li2, own_cu _ i2 k 0 _ n hk (by decide) li2]
  refine o_aload (q := 296) A5 at_294 rfl rfl rfl ?_
  refine o_iload (q := 298) A5 at_296 rfl rfl ?_
  refine o_iload (q := 300) A5 at_298 rfl rfl ?_
  refine o_callV (q := 303) (W := 0) (k' := 2) (n' := 66) (st := []) (argsL := [.int sT, .int swT]) (b' := b5) A5 (rm5 l Z a0 hw t ca sT swT iT o n f2 h5 n0 I2 hsT liT hn4) at_300 I2.1 (hw _ (List.mem_of_getElem? (i := 24) rfl)) (hw _ (List.mem_of_getElem? (i := 25) rfl)) (hw _ (List.mem_of_getElem? (i := 27) rfl)) (hw _ (List.mem_of_getElem? (i := 26) rfl)) (hw _ (List.mem_of_getElem? (i := 6) rfl)) (hw _ (List.mem_of_getElem? (i := 28) rfl)) (by decide) pd5 rfl rfl rfl rfl rfl (by decide) (by decide) rfl rfl (by decide) (by decide) rfl (fun v6 T6 h6 A6 hQ6 => ?_)
  obtain ⟨rfl, I3⟩ := hQ6
  show oFin _ _ _ _ T6 303 #[.val (.int q1), .val (.int q2), .val (.int q3), .val (.long m), .second, .val (.int q5), .val (.int q6), .val (.int se), .val (.int nn), .val (.int sw1), .val (.int sw2), .val (.int swT), .val (.int ds), .val (.int dd), .val (.int ch), .val (.int rl), .val (.int sel), .val (.int s1), .val (.int s2), .val (.int sT), .val (.int sP), .val (.int sD), .val (.int rn), .val (.int md), .val (.int rr), .val (.ref t), .unset, .unset, .unset, .unset, .unset, .unset, .unset, .unset, .unset, .unset, .unset] []
  obtain ⟨f3, hf3⟩ : ∃ f : Nat → Int64, f = own_upd (own_upd f2 (16 * iT + 0) (-1)) (16 * iT + 1) (if swT = 0 then 0 else (-1)) := ⟨_, rfl⟩
  rw [← hf3] at I3
  have c3 : ∀ k, k < 16 → own_col f3 k n = own_col f2 k n + (if k = 0 then (-1) else 0) + (if k = 1 then (if swT = 0 then 0 else (-1)) else 0) := fun k hk => by rw [hf3, own_cu _ iT k 1 _ n hk (by decide) liT, own_cu _ iT k 0 _ n hk (by decide) liT]
  refine o_aload (q := 305) A6 at_303 rfl rfl rfl ?_
  refine o_iloadN (q := 306) A6 at_305 rfl rfl ?_
  refine o_callV (q := 309) (W := 0) (k' := 2) (n' := 66) (st := []) (argsL := [.int q3]) (b' := b6) A6 (rm6 l Z a0 hw t ca q3 o n f3 h6 n0 I3 (by omega)) at_306 I3.1 (hw _ (List.mem_of_getElem? (i := 29) rfl)) (hw _ (List.mem_of_getElem? (i := 30) rfl)) (hw _ (List.mem_of_getElem? (i := 32) rfl)) (hw _ (List.mem_of_getElem? (i := 31) rfl)) (hw _ (List.mem_of_getElem? (i := 6) rfl)) (hw _ (List.mem_of_getElem? (i := 33) rfl)) (by decide) pd6 rfl rfl rfl rfl rfl (by decide) (by decide) rfl rfl (by decide) (by decide) rfl (fun v7 T7 h7 A7 hQ7 => ?_)
  obtain ⟨rfl, I4⟩ := hQ7
  show oFin _ _ _ _ T7 309 #[.val (.int q1), .val (.int q2), .val (.int q3), .val (.long m), .second, .val (.int q5), .val (.int q6), .val (.int se), .val (.int nn), .val (.int sw1), .val (.int sw2), .val (.int swT), .val (.int ds), .val (.int dd), .val (.int ch), .val (.int rl), .val (.int sel), .val (.int s1), .val (.int s2), .val (.int sT), .val (.int sP), .val (.int sD), .val (.int rn), .val (.int md), .val (.int rr), .val (.ref t), .unset, .unset, .unset, .unset, .unset, .unset, .unset, .unset, .unset, .unset, .unset] []
  obtain ⟨f4, hf4⟩ : ∃ f : Nat → Int64, f = own_upd f3 (16 * 0 + 1) q3.toInt64 := ⟨_, rfl⟩
  rw [← hf4] at I4
  have c4 : ∀ k, k < 16 → own_col f4 k n = own_col f3 k n + (if k = 1 then q3.toInt64 else 0) := fun k hk => by rw [hf4, own_cu _ 0 k 1 _ n hk (by decide) (by omega)]
  refine o_aload (q := 311) A7 at_309 rfl rfl rfl ?_
  refine o_iload (q := 313) A7 at_311 rfl rfl ?_
  refine o_callV (q := 316) (W := 0) (k' := 2) (n' := 66) (st := []) (argsL := [.int sP]) (b' := b7) A7 (rm7 l Z a0 hw t ca sP iP o n f4 h7 n0 I4 hsP liP hn4) at_313 I4.1 (hw _ (List.mem_of_getElem? (i := 34) rfl)) (hw _ (List.mem_of_getElem? (i := 35) rfl)) (hw _ (List.mem_of_getElem? (i := 37) rfl)) (hw _ (List.mem_of_getElem? (i := 36) rfl)) (hw _ (List.mem_of_getElem? (i := 6) rfl)) (hw _ (List.mem_of_getElem? (i := 38) rfl)) (by decide) pd7 rfl rfl rfl rfl rfl (by decide) (by decide) rfl rfl (by decide) (by decide) rfl (fun v8 T8 h8 A8 hQ8 => ?_)
  obtain ⟨rfl, I5⟩ := hQ8
  show oFin _ _ _ _ T8 316 #[.val (.int q1), .val (.int q2), .val (.int q3), .val (.long m), .second, .val (.int q5), .val (.int q6), .val (.int se), .val (.int nn), .val (.int sw1), .val (.int sw2), .val (.int swT), .val (.int ds), .val (.int dd), .val (.int ch), .val (.int rl), .val (.int sel), .val (.int s1), .val (.int s2), .val (.int sT), .val (.int sP), .val (.int sD), .val (.int rn), .val (.int md), .val (.int rr), .val (.ref t), .unset, .unset, .unset, .unset, .unset, .unset, .unset, .unset, .unset, .unset, .unset] []
  obtain ⟨f5, hf5⟩ : ∃ f : Nat → Int64, f = own_upd f4 (16 * iP + 2) 1 := ⟨_, rfl⟩
  rw [← hf5] at I5
  have c5 : ∀ k, k < 16 → own_col f5 k n = own_col f4 k n + (if k = 2 then 1 else 0) := fun k hk => by rw [hf5, own_cu _ iP k 2 _ n hk (by decide) liP]
  refine o_iload (q := 318) A8 at_316 rfl rfl ?_
  obtain ⟨ls, hls⟩ : ∃ z : Int64, z = if ds = 0 then 0 else 1 := ⟨_, rfl⟩
  obtain ⟨lt, hlt⟩ : ∃ z : Int64, z = if ds = 0 then 0 else if md = 0 ∨ md = rn then 0 else 1 := ⟨_, rfl⟩
  suffices K : ∀ T h, oPos l Z n0 w b0 T h 2 66 → own_TI Z n0 h t ca o (16 * n) (own_upd (own_upd f5 (16 * iS + 3) ls) (16 * iS + 6) lt) → oFin w b0 n0 (fun v h' => v = some (.int 1)) T 330 #[.val (.int q1), .val (.int q2), .val (.int q3), .val (.long m), .second, .val (.int q5), .val (.int q6), .val (.int se), .val (.int nn), .val (.int sw1), .val (.int sw2), .val (.int swT), .val (.int ds), .val (.int dd), .val (.int ch), .val (.int rl), .val (.int sel), .val (.int s1), .val (.int s2), .val (.int sT), .val (.int sP), .val (.int sD), .val (.int rn), .val (.int md), .val (.int rr), .val (.ref t), .unset, .unset, .unset, .unset, .unset, .unset, .unset, .unset, .unset, .unset, .unset] [] by
    refine o_if (q := 330) (q' := 321) A8 at_318 (by decide) (by decide) rfl (fun hc => ?_) (fun hc => ?_)
    · replace hc : ds = (0 : Int32) := hc
      rw [if_pos hc] at hls hlt
      exact K T8 _ A8 (by rw [hls, hlt, own_upd0, own_upd0]; exact I5)
    · replace hc : ¬ (ds = (0 : Int32)) := hc
      rw [if_neg hc] at hls hlt
      refine o_aload (q := 323) A8 at_321 rfl rfl rfl ?_
      refine o_iload (q := 325) A8 at_323 rfl rfl ?_
      refine o_iload (q := 327) A8 at_325 rfl rfl ?_
      refine o_callV (q := 330) (W := 0) (k' := 2) (n' := 66) (st := []) (argsL := [.int rn, .int md]) (b' := b11) A8 (rm11 l Z a0 hw t ca rn md iS o n f5 h8 n0 I5 hS lS hn4) at_327 I5.1 (hw _ (List.mem_of_getElem? (i := 54) rfl)) (hw _ (List.mem_of_getElem? (i := 55) rfl)) (hw _ (List.mem_of_getElem? (i := 57) rfl)) (hw _ (List.mem_of_getElem? (i := 56) rfl)) (hw _ (List.mem_of_getElem? (i := 6) rfl)) (hw _ (List.mem_of_getElem? (i := 58) rfl)) (by decide) pd11 rfl rfl rfl rfl rfl (by decide) (by decide) rfl rfl (by decide) (by decide) rfl (fun v9 T9 h9 A9 hQ9 => ?_)
      obtain ⟨rfl, J⟩ := hQ9
      show oFin _ _ _ _ T9 330 #[.val (.int q1), .val (.int q2), .val (.int q3), .val (.long m), .second, .val (.int q5), .val (.int q6), .val (.int se), .val (.int nn), .val (.int sw1), .val (.int sw2), .val (.int swT), .val (.int ds), .val (.int dd), .val (.int ch), .val (.int rl), .val (.int sel), .val (.int s1), .val (.int s2), .val (.int sT), .val (.int sP), .val (.int sD), .val (.int rn), .val (.int md), .val (.int rr), .val (.ref t), .unset, .unset, .unset, .unset, .unset, .unset, .unset, .unset, .unset, .unset, .unset] []
      exact K T9 _ A9 (by rw [hls, hlt]; exact J)
  intro T10 h10 A10 I6
  obtain ⟨f6, hf6⟩ : ∃ f : Nat → Int64, f = own_upd (own_upd f5 (16 * iS + 3) ls) (16 * iS + 6) lt := ⟨_, rfl⟩
  rw [← hf6] at I6
  have c6 : ∀ k, k < 16 → own_col f6 k n = own_col f5 k n + (if k = 3 then ls else 0) + (if k = 6 then lt else 0) := fun k hk => by rw [hf6, own_cu _ iS k 6 _ n hk (by decide) lS, own_cu _ iS k 3 _ n hk (by decide) lS]
  refine o_aload (q := 332) A10 at_330 rfl rfl rfl ?_
  refine o_iload (q := 334) A10 at_332 rfl rfl ?_
  refine o_iload (q := 336) A10 at_334 rfl rfl ?_
  refine o_callV (q := 339) (W := 0) (k' := 2) (n' := 66) (st := []) (argsL := [.int rr, .int ch]) (b' := b8) A10 (rm8 l Z a0 hw t ca rr ch iR o n f6 h10 n0 I6 hR lR hn4) at_336 I6.1 (hw _ (List.mem_of_getElem? (i := 39) rfl)) (hw _ (List.mem_of_getElem? (i := 40) rfl)) (hw _ (List.mem_of_getElem? (i := 42) rfl)) (hw _ (List.mem_of_getElem? (i := 41) rfl)) (hw _ (List.mem_of_getElem? (i := 6) rfl)) (hw _ (List.mem_of_getElem? (i := 43) rfl)) (by decide) pd8 rfl rfl rfl rfl rfl (by decide) (by decide) rfl rfl (by decide) (by decide) rfl (fun v11 T11 h11 A11 hQ11 => ?_)
  obtain ⟨rfl, I7⟩ := hQ11
  show oFin _ _ _ _ T11 339 #[.val (.int q1), .val (.int q2), .val (.int q3), .val (.long m), .second, .val (.int q5), .val (.int q6), .val (.int se), .val (.int nn), .val (.int sw1), .val (.int sw2), .val (.int swT), .val (.int ds), .val (.int dd), .val (.int ch), .val (.int rl), .val (.int sel), .val (.int s1), .val (.int s2), .val (.int sT), .val (.int sP), .val (.int sD), .val (.int rn), .val (.int md), .val (.int rr), .val (.ref t), .unset, .unset, .unset, .unset, .unset, .unset, .unset, .unset, .unset, .unset, .unset] []
  obtain ⟨f7, hf7⟩ : ∃ f : Nat → Int64, f = own_upd f6 (16 * iR + 4) ch.toInt64 := ⟨_, rfl⟩
  rw [← hf7] at I7
  have c7 : ∀ k, k < 16 → own_col f7 k n = own_col f6 k n + (if k = 4 then ch.toInt64 else 0) := fun k hk => by rw [hf7, own_cu _ iR k 4 _ n hk (by decide) lR]
  refine o_iload (q := 341) A11 at_339 rfl rfl ?_
  obtain ⟨ld, hld⟩ : ∃ z : Int64, z = if dd = 0 then 0 else 1 := ⟨_, rfl⟩
  suffices K : ∀ T h, oPos l Z n0 w b0 T h 2 66 → own_TI Z n0 h t ca o (16 * n) (own_upd f7 (16 * iD + 5) ld) → oFin w b0 n0 (fun v h' => v = some (.int 1)) T 351 #[.val (.int q1), .val (.int q2), .val (.int q3), .val (.long m), .second, .val (.int q5), .val (.int q6), .val (.int se), .val (.int nn), .val (.int sw1), .val (.int sw2), .val (.int swT), .val (.int ds), .val (.int dd), .val (.int ch), .val (.int rl), .val (.int sel), .val (.int s1), .val (.int s2), .val (.int sT), .val (.int sP), .val (.int sD), .val (.int rn), .val (.int md), .val (.int rr), .val (.ref t), .unset, .unset, .unset, .unset, .unset, .unset, .unset, .unset, .unset, .unset, .unset] [] by
    refine o_if (q := 351) (q' := 344) A11 at_341 (by decide) (by decide) rfl (fun hc => ?_) (fun hc => ?_)
    · replace hc : dd = (0 : Int32) := hc
      rw [if_pos hc] at hld
      exact K T11 _ A11 (by rw [hld, own_upd0]; exact I7)
    · replace hc : ¬ (dd = (0 : Int32)) := hc
      rw [if_neg hc] at hld
      refine o_aload (q := 346) A11 at_344 rfl rfl rfl ?_
      refine o_iload (q := 348) A11 at_346 rfl rfl ?_
      refine o_callV (q := 351) (W := 0) (k' := 2) (n' := 66) (st := []) (argsL := [.int sD]) (b' := b12) A11 (rm12 l Z a0 hw t ca sD iD o n f7 h11 n0 I7 hsD liD hn4) at_348 I7.1 (hw _ (List.mem_of_getElem? (i := 59) rfl)) (hw _ (List.mem_of_getElem? (i := 60) rfl)) (hw _ (List.mem_of_getElem? (i := 62) rfl)) (hw _ (List.mem_of_getElem? (i := 61) rfl)) (hw _ (List.mem_of_getElem? (i := 6) rfl)) (hw _ (List.mem_of_getElem? (i := 63) rfl)) (by decide) pd12 rfl rfl rfl rfl rfl (by decide) (by decide) rfl rfl (by decide) (by decide) rfl (fun v12 T12 h12 A12 hQ12 => ?_)
      obtain ⟨rfl, J⟩ := hQ12
      show oFin _ _ _ _ T12 351 #[.val (.int q1), .val (.int q2), .val (.int q3), .val (.long m), .second, .val (.int q5), .val (.int q6), .val (.int se), .val (.int nn), .val (.int sw1), .val (.int sw2), .val (.int swT), .val (.int ds), .val (.int dd), .val (.int ch), .val (.int rl), .val (.int sel), .val (.int s1), .val (.int s2), .val (.int sT), .val (.int sP), .val (.int sD), .val (.int rn), .val (.int md), .val (.int rr), .val (.ref t), .unset, .unset, .unset, .unset, .unset, .unset, .unset, .unset, .unset, .unset, .unset] []
      exact K T12 _ A12 (by rw [hld]; exact J)
  intro T13 h13 A13 I8
  obtain ⟨f8, hf8⟩ : ∃ f : Nat → Int64, f = own_upd f7 (16 * iD + 5) ld := ⟨_, rfl⟩
  rw [← hf8] at I8
  have c8 : ∀ k, k < 16 → own_col f8 k n = own_col f7 k n + (if k = 5 then ld else 0) := fun k hk => by rw [hf8, own_cu _ iD k 5 _ n hk (by decide) liD]
  refine o_aload (q := 353) A13 at_351 rfl rfl rfl ?_
  refine o_lloadN (q := 354) A13 at_353 rfl rfl ?_
  have Z8 : n0 ≤ h13.size := Nat.le_of_lt (Nat.lt_of_le_of_lt ht I8.1.lt)
  refine o_callV (q := 357) (W := 0) (k' := 4) (n' := 78) (st := []) (argsL := [.long m]) (b' := b10) A13 (rm10 l Z a0 hw t ca m o n f8 h13 n0 Z8 I8 hn4) at_354 I8.1 (hw _ (List.mem_of_getElem? (i := 48) rfl)) (hw _ (List.mem_of_getElem? (i := 49) rfl)) (hw _ (List.mem_of_getElem? (i := 51) rfl)) (hw _ (List.mem_of_getElem? (i := 50) rfl)) (hw _ (List.mem_of_getElem? (i := 6) rfl)) (hw _ (List.mem_of_getElem? (i := 52) rfl)) (by decide) pd10 rfl rfl rfl rfl rfl (by decide) (by decide) rfl rfl (by decide) (by decide) rfl (fun v14 T14 h14 A14 hQ14 => ?_)
  obtain ⟨ra, rfl, R⟩ := hQ14
  show oFin _ _ _ _ T14 357 #[.val (.int q1), .val (.int q2), .val (.int q3), .val (.long m), .second, .val (.int q5), .val (.int q6), .val (.int se), .val (.int nn), .val (.int sw1), .val (.int sw2), .val (.int swT), .val (.int ds), .val (.int dd), .val (.int ch), .val (.int rl), .val (.int sel), .val (.int s1), .val (.int s2), .val (.int sT), .val (.int sP), .val (.int sD), .val (.int rn), .val (.int md), .val (.int rr), .val (.ref t), .unset, .unset, .unset, .unset, .unset, .unset, .unset, .unset, .unset, .unset, .unset] [.ref ra]
  have S0 : own_col f8 0 n = 1 := by rw [c8 0 (by decide), c7 0 (by decide), c6 0 (by decide), c5 0 (by decide), c4 0 (by decide), c3 0 (by decide), c2 0 (by decide), c1 0 (by decide), c0 0 (by decide)]; simp
  have S1 : own_col f8 1 n = (if sw1 = 0 then 0 else 1) + (if sw2 = 0 then 0 else 1) + (if swT = 0 then 0 else (-1)) + q3.toInt64 := by rw [c8 1 (by decide), c7 1 (by decide), c6 1 (by decide), c5 1 (by decide), c4 1 (by decide), c3 1 (by decide), c2 1 (by decide), c1 1 (by decide), c0 1 (by decide)]; simp
  have S2 : own_col f8 2 n = 1 := by rw [c8 2 (by decide), c7 2 (by decide), c6 2 (by decide), c5 2 (by decide), c4 2 (by decide), c3 2 (by decide), c2 2 (by decide), c1 2 (by decide), c0 2 (by decide)]; simp
  have S3 : own_col f8 3 n = ls := by rw [c8 3 (by decide), c7 3 (by decide), c6 3 (by decide), c5 3 (by decide), c4 3 (by decide), c3 3 (by decide), c2 3 (by decide), c1 3 (by decide), c0 3 (by decide)]; simp
  have S4 : own_col f8 4 n = ch.toInt64 := by rw [c8 4 (by decide), c7 4 (by decide), c6 4 (by decide), c5 4 (by decide), c4 4 (by decide), c3 4 (by decide), c2 4 (by decide), c1 4 (by decide), c0 4 (by decide)]; simp
  have S5 : own_col f8 5 n = ld := by rw [c8 5 (by decide), c7 5 (by decide), c6 5 (by decide), c5 5 (by decide), c4 5 (by decide), c3 5 (by decide), c2 5 (by decide), c1 5 (by decide), c0 5 (by decide)]; simp
  have S6 : own_col f8 6 n = lt := by rw [c8 6 (by decide), c7 6 (by decide), c6 6 (by decide), c5 6 (by decide), c4 6 (by decide), c3 6 (by decide), c2 6 (by decide), c1 6 (by decide), c0 6 (by decide)]; simp
  refine o_astore (q := 359) (Ls' := #[.val (.int q1), .val (.int q2), .val (.int q3), .val (.long m), .second, .val (.int q5), .val (.int q6), .val (.int se), .val (.int nn), .val (.int sw1), .val (.int sw2), .val (.int swT), .val (.int ds), .val (.int dd), .val (.int ch), .val (.int rl), .val (.int sel), .val (.int s1), .val (.int s2), .val (.int sT), .val (.int sP), .val (.int sD), .val (.int rn), .val (.int md), .val (.int rr), .val (.ref t), .val (.ref ra), .unset, .unset, .unset, .unset, .unset, .unset, .unset, .unset, .unset, .unset]) A14 at_357 rfl rfl rfl ?_
  refine o_iloadN (q := 360) A14 at_359 rfl rfl ?_
  refine o_i2l (q := 361) A14 at_360 rfl ?_
  refine o_iload (q := 363) A14 at_361 rfl rfl ?_
  obtain ⟨l1, hl1⟩ : ∃ z : Int64, z = if sw1 = 0 then 0 else 1 := ⟨_, rfl⟩
  suffices K : oFin w b0 n0 (fun v h' => v = some (.int 1)) T14 371 #[.val (.int q1), .val (.int q2), .val (.int q3), .val (.long m), .second, .val (.int q5), .val (.int q6), .val (.int se), .val (.int nn), .val (.int sw1), .val (.int sw2), .val (.int swT), .val (.int ds), .val (.int dd), .val (.int ch), .val (.int rl), .val (.int sel), .val (.int s1), .val (.int s2), .val (.int sT), .val (.int sP), .val (.int sD), .val (.int rn), .val (.int md), .val (.int rr), .val (.ref t), .val (.ref ra), .unset, .unset, .unset, .unset, .unset, .unset, .unset, .unset, .unset, .unset] [.long l1, .long (q3.toInt64)] by
    refine o_if (q := 370) (q' := 366) A14 at_363 (by decide) (by decide) rfl (fun hc => ?_) (fun hc => ?_)
    · replace hc : sw1 = (0 : Int32) := hc
      rw [if_pos hc] at hl1; rw [hl1] at K
      refine o_lconst (q := 371) (z := 0) A14 at_370 rfl rfl ?_
      exact K
    · replace hc : ¬ (sw1 = (0 : Int32)) := hc
      rw [if_neg hc] at hl1; rw [hl1] at K
      refine o_lconst (q := 367) (z := 1) A14 at_366 rfl rfl ?_
      refine o_goto (q := 371) A14 at_367 (by decide) (by decide) ?_
      exact K
  refine o_ladd (q := 372) A14 at_371 rfl ?_
  refine o_iload (q := 374) A14 at_372 rfl rfl ?_
  obtain ⟨l2, hl2⟩ : ∃ z : Int64, z = if sw2 = 0 then 0 else 1 := ⟨_, rfl⟩
  suffices K : oFin w b0 n0 (fun v h' => v = some (.int 1)) T14 382 #[.val (.int q1), .val (.int q2), .val (.int q3), .val (.long m), .second, .val (.int q5), .val (.int q6), .val (.int se), .val (.int nn), .val (.int sw1), .val (.int sw2), .val (.int swT), .val (.int ds), .val (.int dd), .val (.int ch), .val (.int rl), .val (.int sel), .val (.int s1), .val (.int s2), .val (.int sT), .val (.int sP), .val (.int sD), .val (.int rn), .val (.int md), .val (.int rr), .val (.ref t), .val (.ref ra), .unset, .unset, .unset, .unset, .unset, .unset, .unset, .unset, .unset, .unset] [.long l2, .long ((q3.toInt64) + l1)] by
    refine o_if (q := 381) (q' := 377) A14 at_374 (by decide) (by decide) rfl (fun hc => ?_) (fun hc => ?_)
    · replace hc : sw2 = (0 : Int32) := hc
      rw [if_pos hc] at hl2; rw [hl2] at K
      refine o_lconst (q := 382) (z := 0) A14 at_381 rfl rfl ?_
      exact K
    · replace hc : ¬ (sw2 = (0 : Int32)) := hc
      rw [if_neg hc] at hl2; rw [hl2] at K
      refine o_lconst (q := 378) (z := 1) A14 at_377 rfl rfl ?_
      refine o_goto (q := 382) A14 at_378 (by decide) (by decide) ?_
      exact K
  refine o_ladd (q := 383) A14 at_382 rfl ?_
  refine o_iload (q := 385) A14 at_383 rfl rfl ?_
  obtain ⟨lT, hlT⟩ : ∃ z : Int64, z = if swT = 0 then 0 else 1 := ⟨_, rfl⟩
  suffices K : oFin w b0 n0 (fun v h' => v = some (.int 1)) T14 393 #[.val (.int q1), .val (.int q2), .val (.int q3), .val (.long m), .second, .val (.int q5), .val (.int q6), .val (.int se), .val (.int nn), .val (.int sw1), .val (.int sw2), .val (.int swT), .val (.int ds), .val (.int dd), .val (.int ch), .val (.int rl), .val (.int sel), .val (.int s1), .val (.int s2), .val (.int sT), .val (.int sP), .val (.int sD), .val (.int rn), .val (.int md), .val (.int rr), .val (.ref t), .val (.ref ra), .unset, .unset, .unset, .unset, .unset, .unset, .unset, .unset, .unset, .unset] [.long lT, .long (((q3.toInt64) + l1) + l2)] by
    refine o_if (q := 392) (q' := 388) A14 at_385 (by decide) (by decide) rfl (fun hc => ?_) (fun hc => ?_)
    · replace hc : swT = (0 : Int32) := hc
      rw [if_pos hc] at hlT; rw [hlT] at K
      refine o_lconst (q := 393) (z := 0) A14 at_392 rfl rfl ?_
      exact K
    · replace hc : ¬ (swT = (0 : Int32)) := hc
      rw [if_neg hc] at hlT; rw [hlT] at K
      refine o_lconst (q := 389) (z := 1) A14 at_388 rfl rfl ?_
      refine o_goto (q := 393) A14 at_389 (by decide) (by decide) ?_
      exact K
  refine o_lsub (q := 394) A14 at_393 rfl ?_
  refine o_lstore (q := 396) (Ls' := #[.val (.int q1), .val (.int q2), .val (.int q3), .val (.long m), .second, .val (.int q5), .val (.int q6), .val (.int se), .val (.int nn), .val (.int sw1), .val (.int sw2), .val (.int swT), .val (.int ds), .val (.int dd), .val (.int ch), .val (.int rl), .val (.int sel), .val (.int s1), .val (.int s2), .val (.int sT), .val (.int sP), .val (.int sD), .val (.int rn), .val (.int md), .val (.int rr), .val (.ref t), .val (.ref ra), .val (.long ((((q3.toInt64) + l1) + l2) - lT)), .second, .unset, .unset, .unset, .unset, .unset, .unset, .unset, .unset]) A14 at_394 rfl rfl ?_
  refine o_iload (q := 398) A14 at_396 rfl rfl ?_
  suffices K : oFin w b0 n0 (fun v h' => v = some (.int 1)) T14 406 #[.val (.int q1), .val (.int q2), .val (.int q3), .val (.long m), .second, .val (.int q5), .val (.int q6), .val (.int se), .val (.int nn), .val (.int sw1), .val (.int sw2), .val (.int swT), .val (.int ds), .val (.int dd), .val (.int ch), .val (.int rl), .val (.int sel), .val (.int s1), .val (.int s2), .val (.int sT), .val (.int sP), .val (.int sD), .val (.int rn), .val (.int md), .val (.int rr), .val (.ref t), .val (.ref ra), .val (.long ((((q3.toInt64) + l1) + l2) - lT)), .second, .unset, .unset, .unset, .unset, .unset, .unset, .unset, .unset] [.long ls] by
    refine o_if (q := 405) (q' := 401) A14 at_398 (by decide) (by decide) rfl (fun hc => ?_) (fun hc => ?_)
    · replace hc : ds = (0 : Int32) := hc
      rw [if_pos hc] at hls; rw [hls] at K
      refine o_lconst (q := 406) (z := 0) A14 at_405 rfl rfl ?_
      exact K
    · replace hc : ¬ (ds = (0 : Int32)) := hc
      rw [if_neg hc] at hls; rw [hls] at K
      refine o_lconst (q := 402) (z := 1) A14 at_401 rfl rfl ?_
      refine o_goto (q := 406) A14 at_402 (by decide) (by decide) ?_
      exact K
  refine o_lstore (q := 408) (Ls' := #[.val (.int q1), .val (.int q2), .val (.int q3), .val (.long m), .second, .val (.int q5), .val (.int q6), .val (.int se), .val (.int nn), .val (.int sw1), .val (.int sw2), .val (.int swT), .val (.int ds), .val (.int dd), .val (.int ch), .val (.int rl), .val (.int sel), .val (.int s1), .val (.int s2), .val (.int sT), .val (.int sP), .val (.int sD), .val (.int rn), .val (.int md), .val (.int rr), .val (.ref t), .val (.ref ra), .val (.long ((((q3.toInt64) + l1) + l2) - lT)), .second, .val (.long ls), .second, .unset, .unset, .unset, .unset, .unset, .unset]) A14 at_406 rfl rfl ?_
  refine o_iload (q := 410) A14 at_408 rfl rfl ?_
  suffices K : oFin w b0 n0 (fun v h' => v = some (.int 1)) T14 418 #[.val (.int q1), .val (.int q2), .val (.int q3), .val (.long m), .second, .val (.int q5), .val (.int q6), .val (.int se), .val (.int nn), .val (.int sw1), .val (.int sw2), .val (.int swT), .val (.int ds), .val (.int dd), .val (.int ch), .val (.int rl), .val (.int sel), .val (.int s1), .val (.int s2), .val (.int sT), .val (.int sP), .val (.int sD), .val (.int rn), .val (.int md), .val (.int rr), .val (.ref t), .val (.ref ra), .val (.long ((((q3.toInt64) + l1) + l2) - lT)), .second, .val (.long ls), .second, .unset, .unset, .unset, .unset, .unset, .unset] [.long ld] by
    refine o_if (q := 417) (q' := 413) A14 at_410 (by decide) (by decide) rfl (fun hc => ?_) (fun hc => ?_)
    · replace hc : dd = (0 : Int32) := hc
      rw [if_pos hc] at hld; rw [hld] at K
      refine o_lconst (q := 418) (z := 0) A14 at_417 rfl rfl ?_
      exact K
    · replace hc : ¬ (dd = (0 : Int32)) := hc
      rw [if_neg hc] at hld; rw [hld] at K
      refine o_lconst (q := 414) (z := 1) A14 at_413 rfl rfl ?_
      refine o_goto (q := 418) A14 at_414 (by decide) (by decide) ?_
      exact K
  refine o_lstore (q := 420) (Ls' := #[.val (.int q1), .val (.int q2), .val (.int q3), .val (.long m), .second, .val (.int q5), .val (.int q6), .val (.int se), .val (.int nn), .val (.int sw1), .val (.int sw2), .val (.int swT), .val (.int ds), .val (.int dd), .val (.int ch), .val (.int rl), .val (.int sel), .val (.int s1), .val (.int s2), .val (.int sT), .val (.int sP), .val (.int sD), .val (.int rn), .val (.int md), .val (.int rr), .val (.ref t), .val (.ref ra), .val (.long ((((q3.toInt64) + l1) + l2) - lT)), .second, .val (.long ls), .second, .val (.long ld), .second, .unset, .unset, .unset, .unset]) A14 at_418 rfl rfl ?_
  refine o_iload (q := 422) A14 at_420 rfl rfl ?_
  suffices K : oFin w b0 n0 (fun v h' => v = some (.int 1)) T14 442 #[.val (.int q1), .val (.int q2), .val (.int q3), .val (.long m), .second, .val (.int q5), .val (.int q6), .val (.int se), .val (.int nn), .val (.int sw1), .val (.int sw2), .val (.int swT), .val (.int ds), .val (.int dd), .val (.int ch), .val (.int rl), .val (.int sel), .val (.int s1), .val (.int s2), .val (.int sT), .val (.int sP), .val (.int sD), .val (.int rn), .val (.int md), .val (.int rr), .val (.ref t), .val (.ref ra), .val (.long ((((q3.toInt64) + l1) + l2) - lT)), .second, .val (.long ls), .second, .val (.long ld), .second, .unset, .unset, .unset, .unset] [.long lt] by
    refine o_if (q := 441) (q' := 425) A14 at_422 (by decide) (by decide) rfl (fun hc => ?_) (fun hc => ?_)
    · replace hc : ds = (0 : Int32) := hc
      rw [if_pos hc] at hlt; rw [hlt] at K
      refine o_lconst (q := 442) (z := 0) A14 at_441 rfl rfl ?_
      exact K
    · replace hc : ¬ (ds = (0 : Int32)) := hc
      rw [if_neg hc] at hlt
      refine o_iload (q := 427) A14 at_425 rfl rfl ?_
      refine o_if (q := 441) (q' := 430) A14 at_427 (by decide) (by decide) rfl (fun hd => ?_) (fun hd => ?_)
      · replace hd : md = (0 : Int32) := hd
        rw [if_pos (Or.inl hd)] at hlt; rw [hlt] at K
        refine o_lconst (q := 442) (z := 0) A14 at_441 rfl rfl ?_
        exact K
      · replace hd : ¬ (md = (0 : Int32)) := hd
        refine o_iload (q := 432) A14 at_430 rfl rfl ?_
        refine o_iload (q := 434) A14 at_432 rfl rfl ?_
        refine o_icmp (q := 441) (q' := 437) A14 at_434 (by decide) (by decide) rfl (fun he => ?_) (fun he => ?_)
        · replace he : md = rn := he
          rw [if_pos (Or.inr he)] at hlt; rw [hlt] at K
          refine o_lconst (q := 442) (z := 0) A14 at_441 rfl rfl ?_
          exact K
        · replace he : ¬ (md = rn) := he
          rw [if_neg (fun q => q.elim hd he)] at hlt; rw [hlt] at K
          refine o_lconst (q := 438) (z := 1) A14 at_437 rfl rfl ?_
          refine o_goto (q := 442) A14 at_438 (by decide) (by decide) ?_
          exact K
  refine o_lstore (q := 444) (Ls' := #[.val (.int q1), .val (.int q2), .val (.int q3), .val (.long m), .second, .val (.int q5), .val (.int q6), .val (.int se), .val (.int nn), .val (.int sw1), .val (.int sw2), .val (.int swT), .val (.int ds), .val (.int dd), .val (.int ch), .val (.int rl), .val (.int sel), .val (.int s1), .val (.int s2), .val (.int sT), .val (.int sP), .val (.int sD), .val (.int rn), .val (.int md), .val (.int rr), .val (.ref t), .val (.ref ra), .val (.long ((((q3.toInt64) + l1) + l2) - lT)), .second, .val (.long ls), .second, .val (.long ld), .second, .val (.long lt), .second, .unset, .unset]) A14 at_442 rfl rfl ?_
  refine o_iload (q := 446) A14 at_444 rfl rfl ?_
  refine o_i2l (q := 447) A14 at_446 rfl ?_
  refine o_lstore (q := 449) (Ls' := #[.val (.int q1), .val (.int q2), .val (.int q3), .val (.long m), .second, .val (.int q5), .val (.int q6), .val (.int se), .val (.int nn), .val (.int sw1), .val (.int sw2), .val (.int swT), .val (.int ds), .val (.int dd), .val (.int ch), .val (.int rl), .val (.int sel), .val (.int s1), .val (.int s2), .val (.int sT), .val (.int sP), .val (.int sD), .val (.int rn), .val (.int md), .val (.int rr), .val (.ref t), .val (.ref ra), .val (.long ((((q3.toInt64) + l1) + l2) - lT)), .second, .val (.long ls), .second, .val (.long ld), .second, .val (.long lt), .second, .val (.long (ch.toInt64)), .second]) A14 at_447 rfl rfl ?_
  refine o_aload (q := 451) A14 at_449 rfl rfl rfl ?_
  refine o_arraylength (q := 452) (z := 5) A14 at_451 R rfl rfl ?_
  refine o_iconst (q := 453) (z := 5) A14 at_452 rfl rfl ?_
  refine o_icmp (q := 458) (q' := 456) A14 at_453 (by decide) (by decide) rfl (fun hc => ?_) (fun hc => ?_)
  · replace hc : (5 : Int32) = (5 : Int32) := hc
    refine o_aload (q := 460) A14 at_458 rfl rfl rfl ?_
    refine o_iconst (q := 461) (z := 0) A14 at_460 rfl rfl ?_
    refine o_laload (q := 462) (m := 5) (i := 0) (v := .long (own_res m (fun k => own_col f8 k n) 0)) A14 at_461 R (by decide) (by decide) rfl rfl ?_
    refine o_lloadN (q := 463) A14 at_462 rfl rfl ?_
    refine o_lconst (q := 464) (z := 1) A14 at_463 rfl rfl ?_
    refine o_ladd (q := 465) A14 at_464 rfl ?_
    refine o_lload (q := 467) A14 at_465 rfl rfl ?_
    refine o_lsub (q := 468) A14 at_467 rfl ?_
    refine o_lcmp (q := 469) A14 at_468 rfl ?_
    have E0 : own_res m (fun k => own_col f8 k n) 0 = ((m + (1 : Int64)) - ((((q3.toInt64) + l1) + l2) - lT)) := by
      show m + own_col f8 2 n - own_col f8 1 n = ((m + (1 : Int64)) - ((((q3.toInt64) + l1) + l2) - lT))
      rw [S2, S1, hl1, hl2, hlT]; by_cases e : swT = 0
      · simp only [if_pos e]; grind
      · simp only [if_neg e]; grind
    refine o_if (q := 527) (q' := 472) A14 at_469 (by decide) (by decide) rfl (fun hf0 => ?_) (fun hf0 => ?_)
    · replace hf0 : (lcmpW (own_res m (fun k => own_col f8 k n) 0) ((m + (1 : Int64)) - ((((q3.toInt64) + l1) + l2) - lT))) ≠ (0 : Int32) := hf0
      exact absurd ((own_lceq _ _).mpr E0) hf0
    · replace hf0 : ¬ ((lcmpW (own_res m (fun k => own_col f8 k n) 0) ((m + (1 : Int64)) - ((((q3.toInt64) + l1) + l2) - lT))) ≠ (0 : Int32)) := hf0
      refine o_aload (q := 474) A14 at_472 rfl rfl rfl ?_
      refine o_iconst (q := 475) (z := 1) A14 at_474 rfl rfl ?_
      refine o_laload (q := 476) (m := 5) (i := 1) (v := .long (own_res m (fun k => own_col f8 k n) 1)) A14 at_475 R (by decide) (by decide) rfl rfl ?_
      refine o_lconst (q := 477) (z := 1) A14 at_476 rfl rfl ?_
      refine o_lload (q := 479) A14 at_477 rfl rfl ?_
      refine o_lsub (q := 480) A14 at_479 rfl ?_
      refine o_lload (q := 482) A14 at_480 rfl rfl ?_
      refine o_lsub (q := 483) A14 at_482 rfl ?_
      refine o_lcmp (q := 484) A14 at_483 rfl ?_
      have E1 : own_res m (fun k => own_col f8 k n) 1 = (((1 : Int64) - ls) - ld) := by
        show own_col f8 0 n - own_col f8 3 n - own_col f8 5 n = (((1 : Int64) - ls) - ld)
        rw [S0, S3, S5]
      refine o_if (q := 527) (q' := 487) A14 at_484 (by decide) (by decide) rfl (fun hf1 => ?_) (fun hf1 => ?_)
      · replace hf1 : (lcmpW (own_res m (fun k => own_col f8 k n) 1) (((1 : Int64) - ls) - ld)) ≠ (0 : Int32) := hf1
        exact absurd ((own_lceq _ _).mpr E1) hf1
      · replace hf1 : ¬ ((lcmpW (own_res m (fun k => own_col f8 k n) 1) (((1 : Int64) - ls) - ld)) ≠ (0 : Int32)) := hf1
        refine o_aload (q := 489) A14 at_487 rfl rfl rfl ?_
        refine o_iconst (q := 490) (z := 2) A14 at_489 rfl rfl ?_
        refine o_laload (q := 491) (m := 5) (i := 2) (v := .long (own_res m (fun k => own_col f8 k n) 2)) A14 at_490 R (by decide) (by decide) rfl rfl ?_
        refine o_lload (q := 493) A14 at_491 rfl rfl ?_
        refine o_lload (q := 495) A14 at_493 rfl rfl ?_
        refine o_lsub (q := 496) A14 at_495 rfl ?_
        refine o_lcmp (q := 497) A14 at_496 rfl ?_
        have E2 : own_res m (fun k => own_col f8 k n) 2 = (ls - (ch.toInt64)) := by
          show own_col f8 3 n - own_col f8 4 n = (ls - (ch.toInt64))
          rw [S3, S4]
        refine o_if (q := 527) (q' := 500) A14 at_497 (by decide) (by decide) rfl (fun hf2 => ?_) (fun hf2 => ?_)
        · replace hf2 : (lcmpW (own_res m (fun k => own_col f8 k n) 2) (ls - (ch.toInt64))) ≠ (0 : Int32) := hf2
          exact absurd ((own_lceq _ _).mpr E2) hf2
        · replace hf2 : ¬ ((lcmpW (own_res m (fun k => own_col f8 k n) 2) (ls - (ch.toInt64))) ≠ (0 : Int32)) := hf2
          refine o_aload (q := 502) A14 at_500 rfl rfl rfl ?_
          refine o_iconst (q := 503) (z := 3) A14 at_502 rfl rfl ?_
          refine o_laload (q := 504) (m := 5) (i := 3) (v := .long (own_res m (fun k => own_col f8 k n) 3)) A14 at_503 R (by decide) (by decide) rfl rfl ?_
          refine o_lload (q := 506) A14 at_504 rfl rfl ?_
          refine o_lload (q := 508) A14 at_506 rfl rfl ?_
          refine o_ladd (q := 509) A14 at_508 rfl ?_
          refine o_lcmp (q := 510) A14 at_509 rfl ?_
          have E3 : own_res m (fun k => own_col f8 k n) 3 = ((ch.toInt64) + ld) := by
            show own_col f8 4 n + own_col f8 5 n = ((ch.toInt64) + ld)
            rw [S4, S5]
          refine o_if (q := 527) (q' := 513) A14 at_510 (by decide) (by decide) rfl (fun hf3 => ?_) (fun hf3 => ?_)
          · replace hf3 : (lcmpW (own_res m (fun k => own_col f8 k n) 3) ((ch.toInt64) + ld)) ≠ (0 : Int32) := hf3
            exact absurd ((own_lceq _ _).mpr E3) hf3
          · replace hf3 : ¬ ((lcmpW (own_res m (fun k => own_col f8 k n) 3) ((ch.toInt64) + ld)) ≠ (0 : Int32)) := hf3
            refine o_aload (q := 515) A14 at_513 rfl rfl rfl ?_
            refine o_iconst (q := 516) (z := 4) A14 at_515 rfl rfl ?_
            refine o_laload (q := 517) (m := 5) (i := 4) (v := .long (own_res m (fun k => own_col f8 k n) 4)) A14 at_516 R (by decide) (by decide) rfl rfl ?_
            refine o_lload (q := 519) A14 at_517 rfl rfl ?_
            refine o_lcmp (q := 520) A14 at_519 rfl ?_
            have E4 : own_res m (fun k => own_col f8 k n) 4 = lt := by
              show own_col f8 6 n = lt
              rw [S6]
            refine o_if (q := 527) (q' := 523) A14 at_520 (by decide) (by decide) rfl (fun hf4 => ?_) (fun hf4 => ?_)
            · replace hf4 : (lcmpW (own_res m (fun k => own_col f8 k n) 4) lt) ≠ (0 : Int32) := hf4
              exact absurd ((own_lceq _ _).mpr E4) hf4
            · replace hf4 : ¬ ((lcmpW (own_res m (fun k => own_col f8 k n) 4) lt) ≠ (0 : Int32)) := hf4
              refine o_iconst (q := 524) (z := 1) A14 at_523 rfl rfl ?_
              refine o_goto (q := 528) A14 at_524 (by decide) (by decide) ?_
              exact o_retN A14 rfl (by simp) at_528 (by decide) (by decide) rfl
  · replace hc : ¬ ((5 : Int32) = (5 : Int32)) := hc
    exact absurd rfl hc
set_option maxRecDepth 65536 in
set_option maxHeartbeats 40000000 in
theorem comes_1 {Post : Tables → Env → Array Value → State → Outcome → State → Prop} (hpost : ∀ tb e args s v u, (limb_1_1.after args s (.returned v) u = true ∧ limb_1_2.after args s (.returned v) u = true ∧ True) → FrameEnd s (.returned v) u (Jvm.fieldLocs frame_1_writes args s ++ Jvm.arrayLocs frame_1_arrays args s ++ Jvm.staticLocs frame_1_statics s) 16 256 → Post tb e args s (.returned v) u) :
    ArmFor flags0 classFile x code maxLocals ret World_1 tables_1 room_1 Calls_1 rest_1 Pre_1 Post := by
  intro l hfl _ _ p e ha hc hk s m args below hf hA hF happ hP
  obtain ⟨hcalls, hrest, hpre⟩ := hP
  obtain ⟨-, -, -, hnamed, -, -, -, hat⟩ := (Spec.applies_iff hf).mp happ
  obtain ⟨hg, hn⟩ := and_e (Cond.before_iff.mp (show (Jvm.Cond.and given_1 narrow_1).before args s = true from hpre))
  obtain ⟨hcnt, g0⟩ := and_e hg
  obtain ⟨a0, g1⟩ := and_e g0
  obtain ⟨a1, g2⟩ := and_e g1
  obtain ⟨a2, g3⟩ := and_e g2
  obtain ⟨a3, g4⟩ := and_e g3
  obtain ⟨a4, g5⟩ := and_e g4
  obtain ⟨w0, w1, w2, w3, w4, w5, rfl⟩ : ∃ w0 w1 w2 w3 w4 w5 : Value, args = #[w0, w1, w2, w3, w4, w5] := by
    have hs : args.size = 6 := by simpa [Cond.value, given_1] using hcnt
    obtain ⟨L⟩ := args
    match L, hs with
    | [w0, w1, w2, w3, w4, w5], _ => exact ⟨w0, w1, w2, w3, w4, w5, rfl⟩
  have hw := fun d (hd : d ∈ tables_1) => atoms_spec (ws := Jvm.Cond.code x code maxLocals ret :: tables_1) hat d (List.mem_cons_of_mem _ hd)
  obtain ⟨i0, ei0⟩ := is_v a0
  obtain rfl : w0 = (.int i0) := Option.some.inj ei0
  obtain ⟨i1, ei1⟩ := is_v a1
  obtain rfl : w1 = (.int i1) := Option.some.inj ei1
  obtain ⟨i2, ei2⟩ := is_v a2
  obtain rfl : w2 = (.int i2) := Option.some.inj ei2
  obtain ⟨i3, ei3⟩ := isL_v a3
  obtain rfl : w3 = (.long i3) := Option.some.inj ei3
  obtain ⟨i4, ei4⟩ := is_v a4
  obtain rfl : w4 = (.int i4) := Option.some.inj ei4
  obtain ⟨i5, ei5⟩ := is_v g5
  obtain rfl : w5 = (.int i5) := Option.some.inj ei5
  obtain ⟨n, o, h1, h2, h3, _, L, rfl, ⟨rfl, N⟩, hq⟩ := rm0 l s _ hw tables_1 i0 i1 i2 i3 i4 i5 s.heap s.heap.size (Nat.le_refl _) p e ha hc hk s m _ below hf ((Spec.applies_iff_loose hf).mp happ).1 ⟨rfl, State.Warmed39.refl s, rfl⟩ trivial
  refine ⟨n, _, h1, h2, h3, hpost _ _ _ _ _ _ ⟨Cond.after_iff.mpr rfl, Cond.after_iff.mpr (eq_i res_at (Term.int_eval (1)) rfl), trivial⟩ ⟨hq.1, hq.2.1, (hq.2.2.sift fun y hy => Or.inr (N y hy)).mono (by decide) (by decide)⟩⟩
theorem main_1_1 : Claimed_1_1 := comes_1 fun _ _ _ _ _ _ h hF => ⟨h.1, hF⟩
theorem main_1_2 : Claimed_1_2 := comes_1 fun _ _ _ _ _ _ h hF => ⟨h.2.1, hF⟩
end Jvm.Pilot.@@N@@
namespace Jvm.Pilot.@@N@@
open Jvm Jvm.ClassFile Sem Op Lib Jvm.Free Jvm.Stand Jvm.Pilot.@@N@@.Jvm.D
/-! MADE BY PROGRAM (witnessworld.py) out of the Statement's table words and the real class files: 12 classes; the members and pool entries that the words name. The judged class is class 1, her method 1. -/
namespace start1
open Jvm.ClassFile
def u (s : String) : CpInfo := .utf8 (stringToUtf16 s)
/-- a pool by its gaps: so many unusable entries, then the entry; so many at the end -/
def gap : Nat → List CpInfo → List CpInfo
  | 0, r => r
  | n + 1, r => .unusable :: gap n r
def poolList (es : List (Nat × CpInfo)) (last : Nat) : List CpInfo := es.foldr (fun e r => gap e.1 (e.2 :: r)) (gap last [])
def pool (es : List (Nat × CpInfo)) (last : Nat) : Array CpInfo := ⟨poolList es last⟩
def fileOf (pool : Array CpInfo) (this : Nat) (attrs : Array Attribute := #[]) (ms : Array MethodInfo := #[]) (fl : Nat := 33) (sup : Nat := 0) (ifs : Array Nat := #[]) (fds : Array FieldInfo := #[]) : ClassFile where
  minorVersion := 0
  majorVersion := 65
  constantPool := pool
  accessFlags := fl
  thisClass := this
  superClass := sup
  interfaces := ifs
  fields := fds
  methods := ms
  attributes := attrs
def plain (name : String) (sup : Option ClassId) : Class where
  name := name
  kind := .ordinary
  loader := none
  accessFlags := 33
  super := sup
  interfaces := #[]
  cf := none
  fields := #[]
  methods := #[]
  instanceTypes := #[]
  staticTypes := #[]
  resolved := #[]
  callSites := []
  init := .initialized
  statics := none
  mirror := none

def pool0 : Array CpInfo := pool [(5, u "<init>"), (0, u "()V"), (1, .class_ 10), (1, u "java/lang/Object")] 113

def k0c0 : Code := { maxStack := 0, maxLocals := 1, code := object_method_1_code, exceptionTable := #[], attributes := #[] }
def k0m0 : Method := { name := "<init>", desc := "()V", sig := { parameters := [], returnType := none }, accessFlags := 1, code := some k0c0 }
/-- java/lang/Object -/
def k0 : Class := { plain "java/lang/Object" none with
  accessFlags := 33
  interfaces := #[]
  cf := some (fileOf pool0 8 #[] #[{ accessFlags := 1, nameIndex := 5, descriptorIndex := 6, attributes := #[] }] 33 0 #[] #[])
  fields := #[]
  methods := #[k0m0]
  instanceTypes := #[]
  staticTypes := #[]
  resolved := Array.replicate 124 none
  statics := none }

def pool1 : Array CpInfo := pool [(2, .class_ 4), (1, u "java/lang/Object"), (0, u "<init>"), (0, u "()V"), (0, .methodref 8 9), (0, .class_ 10), (0, .nameAndType 11 12), (0, u "java/lang/Math"), (0, u "max"), (0, u "(II)I"), (0, .integer 2147483647), (0, .class_ 15), (0, u "com/example/tideloom/tideloom/Tally"), (0, .methodref 14 17), (0, .nameAndType 5 18), (0, u "(I)V"), (0, .methodref 14 20), (0, .nameAndType 21 22), (0, u "handed"), (0, u "(IZ)V"), (0, .methodref 14 24), (0, .nameAndType 25 22), (0, u "takenBack"), (0, .methodref 14 27), (0, .nameAndType 28 18), (0, u "waited"), (0, .methodref 14 30), (0, .nameAndType 31 18), (0, u "putOff"), (0, .methodref 14 33), (0, .nameAndType 34 35), (0, u "started"), (0, u "(II)V"), (0, .methodref 14 37), (0, .nameAndType 38 35), (0, u "ran"), (0, .methodref 14 40), (0, .nameAndType 41 18), (0, u "dropped"), (0, .methodref 14 43), (0, .nameAndType 44 45), (0, u "read"), (0, u "(J)[J"), (0, .class_ 47), (0, u "com/example/tideloom/tideloom/TallyReadPinLaw"), (2, u "law"), (0, u "(IIIJII)Z")] 5

def k1m0 : Method := { name := "<init>", desc := "()V", sig := { parameters := [], returnType := none }, accessFlags := 1, code := none }
def k1c1 : Code := { maxStack := 6, maxLocals := 37, code := code, exceptionTable := #[], attributes := #[] }
def k1m1 : Method := { name := "law", desc := "(IIIJII)Z", sig := { parameters := [.int, .int, .int, .long, .int, .int], returnType := some .boolean }, accessFlags := 9, code := some k1c1 }
/-- com/example/tideloom/tideloom/TallyReadPinLaw -/
def k1 : Class := { plain "com/example/tideloom/tideloom/TallyReadPinLaw" (some 0) with
  accessFlags := 49
  interfaces := #[]
  cf := some (fileOf pool1 46 #[] #[{ accessFlags := 1, nameIndex := 5, descriptorIndex := 6, attributes := #[] }, { accessFlags := 9, nameIndex := 50, descriptorIndex := 51, attributes := #[] }] 49 2 #[] #[])
  fields := #[]
  methods := #[k1m0, k1m1]
  instanceTypes := #[]
  staticTypes := #[]
  resolved := Array.replicate 57 none
  statics := none }

def pool2 : Array CpInfo := pool [(1, .class_ 2), (0, u "java/lang/Math"), (1, .class_ 6), (1, u "java/lang/Object"), (0, u "<init>"), (0, u "()V"), (89, .class_ 100), (1, u "java/lang/Math$RandomNumberGeneratorHolder"), (71, u "negativeZeroFloatBits"), (0, u "J"), (2, u "negativeZeroDoubleBits"), (21, u "max"), (46, u "$assertionsDisabled"), (0, u "Z"), (88, u "(II)I"), (2, u "twoToTheDoubleScaleDown"), (0, u "D"), (4, u "twoToTheDoubleScaleUp"), (9, u "E"), (3, u "PI"), (2, u "TAU"), (2, u "DEGREES_TO_RADIANS"), (0, u "RADIANS_TO_DEGREES")] 94

def k2m0 : Method := { name := "<init>", desc := "()V", sig := { parameters := [], returnType := none }, accessFlags := 2, code := none }
def k2c1 : Code := { maxStack := 2, maxLocals := 2, code := jdk_29_method_65_code, exceptionTable := #[], attributes := #[] }
def k2m1 : Method := { name := "max", desc := "(II)I", sig := { parameters := [.int, .int], returnType := some .int }, accessFlags := 9, code := some k2c1 }
/-- java/lang/Math -/
def k2 : Class := { plain "java/lang/Math" (some 0) with
  accessFlags := 49
  interfaces := #[]
  cf := some (fileOf pool2 1 #[.nestMembers #[98]] #[{ accessFlags := 2, nameIndex := 7, descriptorIndex := 8, attributes := #[] }, { accessFlags := 9, nameIndex := 198, descriptorIndex := 335, attributes := #[] }] 49 4 #[] #[{ accessFlags := 25, nameIndex := 354, descriptorIndex := 339, attributes := #[] }, { accessFlags := 25, nameIndex := 358, descriptorIndex := 339, attributes := #[] }, { accessFlags := 25, nameIndex := 361, descriptorIndex := 339, attributes := #[] }, { accessFlags := 26, nameIndex := 364, descriptorIndex := 339, attributes := #[] }, { accessFlags := 26, nameIndex := 365, descriptorIndex := 339, attributes := #[] }, { accessFlags := 26, nameIndex := 172, descriptorIndex := 173, attributes := #[] }, { accessFlags := 26, nameIndex := 176, descriptorIndex := 173, attributes := #[] }, { accessFlags := 8, nameIndex := 344, descriptorIndex := 339, attributes := #[] }, { accessFlags := 8, nameIndex := 338, descriptorIndex := 339, attributes := #[] }, { accessFlags := 4120, nameIndex := 245, descriptorIndex := 246, attributes := #[] }])
  fields := #[{ name := "E", type := .double, accessFlags := 25, slot := 0, constantValue := 0 }, { name := "PI", type := .double, accessFlags := 25, slot := 1, constantValue := 0 }, { name := "TAU", type := .double, accessFlags := 25, slot := 2, constantValue := 0 }, { name := "DEGREES_TO_RADIANS", type := .double, accessFlags := 26, slot := 3, constantValue := 0 }, { name := "RADIANS_TO_DEGREES", type := .double, accessFlags := 26, slot := 4, constantValue := 0 }, { name := "negativeZeroFloatBits", type := .long, accessFlags := 26, slot := 5, constantValue := 0 }, { name := "negativeZeroDoubleBits", type := .long, accessFlags := 26, slot := 6, constantValue := 0 }, { name := "twoToTheDoubleScaleUp", type := .double, accessFlags := 8, slot := 7, constantValue := 0 }, { name := "twoToTheDoubleScaleDown", type := .double, accessFlags := 8, slot := 8, constantValue := 0 }, { name := "$assertionsDisabled", type := .boolean, accessFlags := 4120, slot := 9, constantValue := 0 }]
  methods := #[k2m0, k2m1]
  instanceTypes := #[]
  staticTypes := #[.double, .double, .double, .double, .double, .long, .long, .double, .double, .boolean]
  resolved := Array.replicate 460 none
  statics := none }

def pool3 : Array CpInfo := pool [(1, .methodref 2 3), (0, .class_ 4), (0, .nameAndType 5 6), (0, u "java/lang/Object"), (0, u "<init>"), (0, u "()V"), (0, .fieldref 8 9), (0, .class_ 10), (0, .nameAndType 11 12), (0, u "com/example/tideloom/tideloom/Tally"), (0, u "oneRunner"), (0, u "Z"), (0, .methodref 14 15), (0, .class_ 16), (0, .nameAndType 17 18), (0, u "java/lang/Math"), (0, u "max"), (0, u "(II)I"), (0, .fieldref 8 20), (0, .nameAndType 21 22), (0, u "counts"), (0, u "[J"), (0, .methodref 8 24), (0, .nameAndType 25 26), (0, u "slotOf"), (0, u "(I)I"), (2, u "STRIDE"), (0, u "I"), (2, u "HANDED"), (1, u "WAITED"), (1, u "PUT_OFF"), (1, u "STARTED"), (1, u "RAN"), (1, u "DROPPED"), (1, u "TOOK_OVER"), (1, u "LOCKED"), (0, u "TURN"), (0, u "WAITING"), (0, u "READY"), (0, u "RUNNING"), (0, u "ENDED"), (0, u "STOLEN"), (0, u "READ"), (0, u "(I)V"), (3, u "handed"), (0, u "(IZ)V"), (0, u "takenBack"), (0, u "waited"), (0, u "putOff"), (0, u "started"), (0, u "(II)V"), (0, u "ran"), (1, u "dropped"), (0, u "read"), (0, u "(J)[J")] 2

def k3c0 : Code := { maxStack := 3, maxLocals := 2, code := prog_89_method_1_code, exceptionTable := #[], attributes := #[] }
def k3m0 : Method := { name := "<init>", desc := "(I)V", sig := { parameters := [.int], returnType := none }, accessFlags := 0, code := some k3c0 }
def k3c1 : Code := { maxStack := 6, maxLocals := 4, code := prog_89_method_2_code, exceptionTable := #[], attributes := #[] }
def k3m1 : Method := { name := "handed", desc := "(IZ)V", sig := { parameters := [.int, .boolean], returnType := none }, accessFlags := 0, code := some k3c1 }
def k3c2 : Code := { maxStack := 6, maxLocals := 4, code := prog_89_method_3_code, exceptionTable := #[], attributes := #[] }
def k3m2 : Method := { name := "takenBack", desc := "(IZ)V", sig := { parameters := [.int, .boolean], returnType := none }, accessFlags := 0, code := some k3c2 }
def k3c3 : Code := { maxStack := 6, maxLocals := 2, code := prog_89_method_4_code, exceptionTable := #[], attributes := #[] }
def k3m3 : Method := { name := "waited", desc := "(I)V", sig := { parameters := [.int], returnType := none }, accessFlags := 0, code := some k3c3 }
def k3c4 : Code := { maxStack := 6, maxLocals := 2, code := prog_89_method_5_code, exceptionTable := #[], attributes := #[] }
def k3m4 : Method := { name := "putOff", desc := "(I)V", sig := { parameters := [.int], returnType := none }, accessFlags := 0, code := some k3c4 }
def k3c5 : Code := { maxStack := 6, maxLocals := 4, code := prog_89_method_6_code, exceptionTable := #[], attributes := #[] }
def k3m5 : Method := { name := "started", desc := "(II)V", sig := { parameters := [.int, .int], returnType := none }, accessFlags := 0, code := some k3c5 }
def k3c6 : Code := { maxStack := 6, maxLocals := 3, code := prog_89_method_7_code, exceptionTable := #[], attributes := #[] }
def k3m6 : Method := { name := "ran", desc := "(II)V", sig := { parameters := [.int, .int], returnType := none }, accessFlags := 0, code := some k3c6 }
def k3c7 : Code := { maxStack := 6, maxLocals := 2, code := prog_89_method_8_code, exceptionTable := #[], attributes := #[] }
def k3m7 : Method := { name := "dropped", desc := "(I)V", sig := { parameters := [.int], returnType := none }, accessFlags := 0, code := some k3c7 }
def k3c8 : Code := { maxStack := 1, maxLocals := 2, code := prog_89_method_9_code, exceptionTable := #[], attributes := #[] }
def k3m8 : Method := { name := "slotOf", desc := "(I)I", sig := { parameters := [.int], returnType := some .int }, accessFlags := 2, code := some k3c8 }
def k3c9 : Code := { maxStack := 7, maxLocals := 6, code := prog_89_method_10_code, exceptionTable := #[], attributes := #[] }
def k3m9 : Method := { name := "read", desc := "(J)[J", sig := { parameters := [.long], returnType := some (.array .long) }, accessFlags := 0, code := some k3c9 }
/-- com/example/tideloom/tideloom/Tally -/
def k3 : Class := { plain "com/example/tideloom/tideloom/Tally" (some 0) with
  accessFlags := 48
  interfaces := #[]
  cf := some (fileOf pool3 8 #[] #[{ accessFlags := 0, nameIndex := 5, descriptorIndex := 55, attributes := #[] }, { accessFlags := 0, nameIndex := 59, descriptorIndex := 60, attributes := #[] }, { accessFlags := 0, nameIndex := 61, descriptorIndex := 60, attributes := #[] }, { accessFlags := 0, nameIndex := 62, descriptorIndex := 55, attributes := #[] }, { accessFlags := 0, nameIndex := 63, descriptorIndex := 55, attributes := #[] }, { accessFlags := 0, nameIndex := 64, descriptorIndex := 65, attributes := #[] }, { accessFlags := 0, nameIndex := 66, descriptorIndex := 65, attributes := #[] }, { accessFlags := 0, nameIndex := 68, descriptorIndex := 55, attributes := #[] }, { accessFlags := 2, nameIndex := 25, descriptorIndex := 26, attributes := #[] }, { accessFlags := 0, nameIndex := 69, descriptorIndex := 70, attributes := #[] }] 48 2 #[] #[{ accessFlags := 26, nameIndex := 29, descriptorIndex := 30, attributes := #[] }, { accessFlags := 26, nameIndex := 33, descriptorIndex := 30, attributes := #[] }, { accessFlags := 26, nameIndex := 35, descriptorIndex := 30, attributes := #[] }, { accessFlags := 26, nameIndex := 37, descriptorIndex := 30, attributes := #[] }, { accessFlags := 26, nameIndex := 39, descriptorIndex := 30, attributes := #[] }, { accessFlags := 26, nameIndex := 41, descriptorIndex := 30, attributes := #[] }, { accessFlags := 26, nameIndex := 43, descriptorIndex := 30, attributes := #[] }, { accessFlags := 26, nameIndex := 45, descriptorIndex := 30, attributes := #[] }, { accessFlags := 24, nameIndex := 47, descriptorIndex := 30, attributes := #[] }, { accessFlags := 26, nameIndex := 48, descriptorIndex := 30, attributes := #[] }, { accessFlags := 24, nameIndex := 49, descriptorIndex := 30, attributes := #[] }, { accessFlags := 24, nameIndex := 50, descriptorIndex := 30, attributes := #[] }, { accessFlags := 24, nameIndex := 51, descriptorIndex := 30, attributes := #[] }, { accessFlags := 24, nameIndex := 52, descriptorIndex := 30, attributes := #[] }, { accessFlags := 24, nameIndex := 53, descriptorIndex := 30, attributes := #[] }, { accessFlags := 24, nameIndex := 54, descriptorIndex := 30, attributes := #[] }, { accessFlags := 18, nameIndex := 11, descriptorIndex := 12, attributes := #[] }, { accessFlags := 18, nameIndex := 21, descriptorIndex := 22, attributes := #[] }])
  fields := #[{ name := "STRIDE", type := .int, accessFlags := 26, slot := 0, constantValue := 0 }, { name := "HANDED", type := .int, accessFlags := 26, slot := 1, constantValue := 0 }, { name := "WAITED", type := .int, accessFlags := 26, slot := 2, constantValue := 0 }, { name := "PUT_OFF", type := .int, accessFlags := 26, slot := 3, constantValue := 0 }, { name := "STARTED", type := .int, accessFlags := 26, slot := 4, constantValue := 0 }, { name := "RAN", type := .int, accessFlags := 26, slot := 5, constantValue := 0 }, { name := "DROPPED", type := .int, accessFlags := 26, slot := 6, constantValue := 0 }, { name := "TOOK_OVER", type := .int, accessFlags := 26, slot := 7, constantValue := 0 }, { name := "LOCKED", type := .int, accessFlags := 24, slot := 8, constantValue := 0 }, { name := "TURN", type := .int, accessFlags := 26, slot := 9, constantValue := 0 }, { name := "WAITING", type := .int, accessFlags := 24, slot := 10, constantValue := 0 }, { name := "READY", type := .int, accessFlags := 24, slot := 11, constantValue := 0 }, { name := "RUNNING", type := .int, accessFlags := 24, slot := 12, constantValue := 0 }, { name := "ENDED", type := .int, accessFlags := 24, slot := 13, constantValue := 0 }, { name := "STOLEN", type := .int, accessFlags := 24, slot := 14, constantValue := 0 }, { name := "READ", type := .int, accessFlags := 24, slot := 15, constantValue := 0 }, { name := "oneRunner", type := .boolean, accessFlags := 18, slot := 0, constantValue := 0 }, { name := "counts", type := (.array .long), accessFlags := 18, slot := 1, constantValue := 0 }]
  methods := #[k3m0, k3m1, k3m2, k3m3, k3m4, k3m5, k3m6, k3m7, k3m8, k3m9]
  instanceTypes := #[.boolean, (.array .long)]
  staticTypes := #[.int, .int, .int, .int, .int, .int, .int, .int, .int, .int, .int, .int, .int, .int, .int, .int]
  resolved := Array.replicate 73 none
  statics := none }

def pool4 : Array CpInfo := pool [(1, u "java/lang/Cloneable"), (0, .class_ 1), (0, u "java/lang/Object"), (0, .class_ 3)] 3

/-- java/lang/Cloneable -/
def k4 : Class := { plain "java/lang/Cloneable" (some 0) with
  accessFlags := 1537
  interfaces := #[]
  cf := some (fileOf pool4 2 #[] #[] 1537 4 #[] #[])
  fields := #[]
  methods := #[]
  instanceTypes := #[]
  staticTypes := #[]
  resolved := Array.replicate 8 none
  statics := none }

def pool5 : Array CpInfo := pool [(1, u "java/io/Serializable"), (0, .class_ 1), (0, u "java/lang/Object"), (0, .class_ 3)] 3

/-- java/io/Serializable -/
def k5 : Class := { plain "java/io/Serializable" (some 0) with
  accessFlags := 1537
  interfaces := #[]
  cf := some (fileOf pool5 2 #[] #[] 1537 4 #[] #[])
  fields := #[]
  methods := #[]
  instanceTypes := #[]
  staticTypes := #[]
  resolved := Array.replicate 8 none
  statics := none }

/-- the primitive byte -/
def k6 : Class := { plain "byte" none with kind := .primitive 'B', accessFlags := 0x411 }
/-- [B -/
def k7 : Class := { plain "[B" (some 0) with kind := .array 6 .byte, interfaces := #[4, 5], accessFlags := 1041 }

/-- the primitive int -/
def k8 : Class := { plain "int" none with kind := .primitive 'I', accessFlags := 0x411 }
/-- [I -/
def k9 : Class := { plain "[I" (some 0) with kind := .array 8 .int, interfaces := #[4, 5], accessFlags := 1041 }

/-- the primitive long -/
def k10 : Class := { plain "long" none with kind := .primitive 'J', accessFlags := 0x411 }
/-- [J -/
def k11 : Class := { plain "[J" (some 0) with kind := .array 10 .long, interfaces := #[4, 5], accessFlags := 1041 }

def heap : Heap := #[]
def classes : Array Class := #[k0, k1, k2, k3, k4, k5, k6, k7, k8, k9, k10, k11]
def interned : List (Array UInt16 × Addr) := []
def slotsUsed : Nat := 0
def theMethod : MethodId := ⟨1, 1⟩
def args0 : Array Value := #[.int 5, .int 6, .int 7, .long 8, .int 9, .int 10]
def aboutOver (below : List Frame) : State where
  vm := { classes := classes, interned := interned.toArray }
  heap := heap
  slotsUsed := slotsUsed
  threads := #[{ frames := .invoking theMethod args0 :: below }]
def below0 : List Frame := [.native { method := ⟨0, 0⟩, args := #[] }]
def about1 : State := aboutOver below0
def p0 : Program := .bare "" "" ""
def e0 : Env := launch0.env 0 0 0
theorem w_frames : about1.frames = Frame.invoking theMethod args0 :: below0 := rfl
set_option maxRecDepth 65536 in
theorem w_args : argsFit about1.vm theMethod args0 = true := by decide +kernel
set_option maxRecDepth 65536 in
theorem w_heap : heapFits about1 = true := by decide +kernel
set_option maxRecDepth 65536 in
theorem w_runnable : about1.curStatus? = some .runnable := by decide +kernel
set_option maxRecDepth 65536 in
theorem w_alone : about1.alone = true := by decide +kernel
set_option maxRecDepth 65536 in
theorem w_named : about1.methodNamed? x = some theMethod := by decide +kernel
set_option maxRecDepth 65536 in
theorem w_hears : about1.hears theMethod below0 = true := by decide +kernel
set_option maxRecDepth 65536 in
theorem w_ripe : about1.ripe theMethod args0 below0 = true := by decide +kernel
theorem w_running : about1.status = .running := rfl
set_option maxRecDepth 65536 in
theorem w_room : about1.hasRoom e0.platform room_1 = true :=
  launch0.hasRoom_least _ room_1 (by decide +kernel) (by decide +kernel) (by decide +kernel) (by decide +kernel) (by decide +kernel) (by decide +kernel)
theorem allAtoms_all (ts : List Jvm.Cond) (a : Array Jvm.Value) (st : Jvm.State) : (allAtoms ts).before a st = ts.all (fun c => c.before a st) := by
  induction ts with
  | nil => rfl
  | cons c t ih =>
    show (Jvm.Cond.and c (allAtoms t)).before a st = _
    rw [Jvm.Cond.before_and, ih, List.all_cons]
def words1 : List Jvm.Cond := Jvm.Cond.code x code maxLocals ret :: tables_1
/-- a 'code' word, met by the world's own term for the bytes: nothing is compared byte by byte -/
theorem code_word {y : MethodName} {bytes : ByteArray} {mx : Nat} {rt : Option FieldType} {a : Array Value} {s : State} {m : MethodId} {meth : Method} {c : Code} (h1 : s.methodNamed? y = some m) (h2 : s.vm.method? m = some meth) (h3 : meth.code = some c) (h4 : c.code = bytes)
    (h5 : (c.maxLocals == mx && c.exceptionTable.isEmpty && decide (c.maxStack ≤ mostOperands) && decide (meth.sig.returnType = rt) && !meth.locks && decide (parseMethodDescriptor y.desc = some meth.sig)) = true) : (Jvm.Cond.code y bytes mx rt).before a s = true := by
  simp only [Bool.and_eq_true, beq_iff_eq, Bool.not_eq_true', decide_eq_true_eq] at h5
  obtain ⟨⟨⟨⟨⟨g1, g2⟩, g3⟩, g4⟩, g5⟩, g6⟩ := h5
  simp [Cond.before, Cond.holds, Cond.value, h1, h2, h3, h4, g1, g2, g3, g4, g5, g6]
def isCode : Jvm.Cond → Bool
  | .code _ _ _ _ => true
  | _ => false
theorem all_split {L : List Jvm.Cond} {P : Jvm.Cond → Bool} (h1 : L.all (fun c => isCode c || P c) = true) (h2 : ∀ c ∈ L.filter isCode, P c = true) : L.all P = true := by
  refine List.all_eq_true.mpr fun c hc => ?_
  have h := List.all_eq_true.mp h1 c hc
  rcases Bool.eq_false_or_eq_true (isCode c) with hi | hi
  · exact h2 c (List.mem_filter.mpr ⟨hc, hi⟩)
  · simpa [hi] using h
set_option maxRecDepth 65536 in
theorem w_c0 : (Jvm.Cond.code x code maxLocals ret).before args0 about1 = true := code_word (m := ⟨1, 1⟩) (meth := k1m1) (c := k1c1) (by decide +kernel) rfl rfl rfl (by decide +kernel)
set_option maxRecDepth 65536 in
theorem w_c1 : (Jvm.Cond.code ({ cls := "java/lang/Math", name := "max", desc := "(II)I" } : Jvm.MethodName) jdk_29_method_65_code (2 : Nat) (Option.some Jvm.ClassFile.FieldType.int)).before args0 about1 = true := code_word (m := ⟨2, 1⟩) (meth := k2m1) (c := k2c1) (by decide +kernel) rfl rfl rfl (by decide +kernel)
set_option maxRecDepth 65536 in
theorem w_c2 : (Jvm.Cond.code ({ cls := "com/example/tideloom/tideloom/Tally", name := "<init>", desc := "(I)V" } : Jvm.MethodName) prog_89_method_1_code (2 : Nat) (Option.none : Option Jvm.ClassFile.FieldType)).before args0 about1 = true := code_word (m := ⟨3, 0⟩) (meth := k3m0) (c := k3c0) (by decide +kernel) rfl rfl rfl (by decide +kernel)
set_option maxRecDepth 65536 in
theorem w_c3 : (Jvm.Cond.code ({ cls := "java/lang/Object", name := "<init>", desc := "()V" } : Jvm.MethodName) object_method_1_code (1 : Nat) (Option.none : Option Jvm.ClassFile.FieldType)).before args0 about1 = true := code_word (m := ⟨0, 0⟩) (meth := k0m0) (c := k0c0) (by decide +kernel) rfl rfl rfl (by decide +kernel)
set_option maxRecDepth 65536 in
theorem w_c4 : (Jvm.Cond.code ({ cls := "com/example/tideloom/tideloom/Tally", name := "handed", desc := "(IZ)V" } : Jvm.MethodName) prog_89_method_2_code (4 : Nat) (Option.none : Option Jvm.ClassFile.FieldType)).before args0 about1 = true := code_word (m := ⟨3, 1⟩) (meth := k3m1) (c := k3c1) (by decide +kernel) rfl rfl rfl (by decide +kernel)
set_option maxRecDepth 65536 in
theorem w_c5 : (Jvm.Cond.code ({ cls := "com/example/tideloom/tideloom/Tally", name := "takenBack", desc := "(IZ)V" } : Jvm.MethodName) prog_89_method_3_code (4 : Nat) (Option.none : Option Jvm.ClassFile.FieldType)).before args0 about1 = true := code_word (m := ⟨3, 2⟩) (meth := k3m2) (c := k3c2) (by decide +kernel) rfl rfl rfl (by decide +kernel)
set_option maxRecDepth 65536 in
theorem w_c6 : (Jvm.Cond.code ({ cls := "com/example/tideloom/tideloom/Tally", name := "waited", desc := "(I)V" } : Jvm.MethodName) prog_89_method_4_code (2 : Nat) (Option.none : Option Jvm.ClassFile.FieldType)).before args0 about1 = true := code_word (m := ⟨3, 3⟩) (meth := k3m3) (c := k3c3) (by decide +kernel) rfl rfl rfl (by decide +kernel)
set_option maxRecDepth 65536 in
theorem w_c7 : (Jvm.Cond.code ({ cls := "com/example/tideloom/tideloom/Tally", name := "putOff", desc := "(I)V" } : Jvm.MethodName) prog_89_method_5_code (2 : Nat) (Option.none : Option Jvm.ClassFile.FieldType)).before args0 about1 = true := code_word (m := ⟨3, 4⟩) (meth := k3m4) (c := k3c4) (by decide +kernel) rfl rfl rfl (by decide +kernel)
set_option maxRecDepth 65536 in
theorem w_c8 : (Jvm.Cond.code ({ cls := "com/example/tideloom/tideloom/Tally", name := "ran", desc := "(II)V" } : Jvm.MethodName) prog_89_method_7_code (3 : Nat) (Option.none : Option Jvm.ClassFile.FieldType)).before args0 about1 = true := code_word (m := ⟨3, 6⟩) (meth := k3m6) (c := k3c6) (by decide +kernel) rfl rfl rfl (by decide +kernel)
set_option maxRecDepth 65536 in
theorem w_c9 : (Jvm.Cond.code ({ cls := "com/example/tideloom/tideloom/Tally", name := "slotOf", desc := "(I)I" } : Jvm.MethodName) prog_89_method_9_code (2 : Nat) (Option.some Jvm.ClassFile.FieldType.int)).before args0 about1 = true := code_word (m := ⟨3, 8⟩) (meth := k3m8) (c := k3c8) (by decide +kernel) rfl rfl rfl (by decide +kernel)
set_option maxRecDepth 65536 in
theorem w_c10 : (Jvm.Cond.code ({ cls := "com/example/tideloom/tideloom/Tally", name := "read", desc := "(J)[J" } : Jvm.MethodName) prog_89_method_10_code (6 : Nat) (Option.some (Jvm.ClassFile.FieldType.array Jvm.ClassFile.FieldType.long))).before args0 about1 = true := code_word (m := ⟨3, 9⟩) (meth := k3m9) (c := k3c9) (by decide +kernel) rfl rfl rfl (by decide +kernel)
set_option maxRecDepth 65536 in
theorem w_c11 : (Jvm.Cond.code ({ cls := "com/example/tideloom/tideloom/Tally", name := "started", desc := "(II)V" } : Jvm.MethodName) prog_89_method_6_code (4 : Nat) (Option.none : Option Jvm.ClassFile.FieldType)).before args0 about1 = true := code_word (m := ⟨3, 5⟩) (meth := k3m5) (c := k3c5) (by decide +kernel) rfl rfl rfl (by decide +kernel)
set_option maxRecDepth 65536 in
theorem w_c12 : (Jvm.Cond.code ({ cls := "com/example/tideloom/tideloom/Tally", name := "dropped", desc := "(I)V" } : Jvm.MethodName) prog_89_method_8_code (2 : Nat) (Option.none : Option Jvm.ClassFile.FieldType)).before args0 about1 = true := code_word (m := ⟨3, 7⟩) (meth := k3m7) (c := k3c7) (by decide +kernel) rfl rfl rfl (by decide +kernel)
def codes1 : List Jvm.Cond := [Jvm.Cond.code x code maxLocals ret, Jvm.Cond.code ({ cls := "java/lang/Math", name := "max", desc := "(II)I" } : Jvm.MethodName) jdk_29_method_65_code (2 : Nat) (Option.some Jvm.ClassFile.FieldType.int), Jvm.Cond.code ({ cls := "com/example/tideloom/tideloom/Tally", name := "<init>", desc := "(I)V" } : Jvm.MethodName) prog_89_method_1_code (2 : Nat) (Option.none : Option Jvm.ClassFile.FieldType), Jvm.Cond.code ({ cls := "java/lang/Object", name := "<init>", desc := "()V" } : Jvm.MethodName) object_method_1_code (1 : Nat) (Option.none : Option Jvm.ClassFile.FieldType), Jvm.Cond.code ({ cls := "com/example/tideloom/tideloom/Tally", name := "handed", desc := "(IZ)V" } : Jvm.MethodName) prog_89_method_2_code (4 : Nat) (Option.none : Option Jvm.ClassFile.FieldType), Jvm.Cond.code ({ cls := "com/example/tideloom/tideloom/Tally", name := "takenBack", desc := "(IZ)V" } : Jvm.MethodName) prog_89_method_3_code (4 : Nat) (Option.none : Option Jvm.ClassFile.FieldType), Jvm.Cond.code ({ cls := "com/example/tideloom/tideloom/Tally", name := "waited", desc := "(I)V" } : Jvm.MethodName) prog_89_method_4_code (2 : Nat) (Option.none : Option Jvm.ClassFile.FieldType), Jvm.Cond.code ({ cls := "com/example/tideloom/tideloom/Tally", name := "putOff", desc := "(I)V" } : Jvm.MethodName) prog_89_method_5_code (2 : Nat) (Option.none : Option Jvm.ClassFile.FieldType), Jvm.Cond.code ({ cls := "com/example/tideloom/tideloom/Tally", name := "ran", desc := "(II)V" } : Jvm.MethodName) prog_89_method_7_code (3 : Nat) (Option.none : Option Jvm.ClassFile.FieldType), Jvm.Cond.code ({ cls := "com/example/tideloom/tideloom/Tally", name := "slotOf", desc := "(I)I" } : Jvm.MethodName) prog_89_method_9_code (2 : Nat) (Option.some Jvm.ClassFile.FieldType.int), Jvm.Cond.code ({ cls := "com/example/tideloom/tideloom/Tally", name := "read", desc := "(J)[J" } : Jvm.MethodName) prog_89_method_10_code (6 : Nat) (Option.some (Jvm.ClassFile.FieldType.array Jvm.ClassFile.FieldType.long)), Jvm.Cond.code ({ cls := "com/example/tideloom/tideloom/Tally", name := "started", desc := "(II)V" } : Jvm.MethodName) prog_89_method_6_code (4 : Nat) (Option.none : Option Jvm.ClassFile.FieldType), Jvm.Cond.code ({ cls := "com/example/tideloom/tideloom/Tally", name := "dropped", desc := "(I)V" } : Jvm.MethodName) prog_89_method_8_code (2 : Nat) (Option.none : Option Jvm.ClassFile.FieldType)]
set_option maxRecDepth 65536 in
theorem codes_eq : words1.filter isCode = codes1 := rfl
theorem w_codes : ∀ c ∈ words1.filter isCode, c.before args0 about1 = true := by
  rw [codes_eq]
  intro c hc
  simp only [codes1, List.mem_cons, List.not_mem_nil, or_false] at hc
  rcases hc with rfl | rfl | rfl | rfl | rfl | rfl | rfl | rfl | rfl | rfl | rfl | rfl | rfl
  · exact w_c0
  · exact w_c1
  · exact w_c2
  · exact w_c3
  · exact w_c4
  · exact w_c5
  · exact w_c6
  · exact w_c7
  · exact w_c8
  · exact w_c9
  · exact w_c10
  · exact w_c11
  · exact w_c12
set_option maxRecDepth 65536 in
theorem w_t1 : (words1.take 24).all (fun c => isCode c || c.before args0 about1) = true := by decide +kernel
set_option maxRecDepth 65536 in
theorem w_t2 : ((words1.drop 24).take 24).all (fun c => isCode c || c.before args0 about1) = true := by decide +kernel
set_option maxRecDepth 65536 in
theorem w_t3 : ((words1.drop 24).drop 24).all (fun c => isCode c || c.before args0 about1) = true := by decide +kernel
theorem w_tables : (allAtoms (Jvm.Cond.code x code maxLocals ret :: tables_1)).before args0 about1 = true := by
  rw [allAtoms_all]
  show words1.all (fun c => c.before args0 about1) = true
  refine all_split ?_ w_codes
  rw [← List.take_append_drop 24 words1, List.all_append, w_t1, ← List.take_append_drop 24 (words1.drop 24), List.all_append, w_t2, w_t3]
  rfl
set_option maxRecDepth 65536 in
theorem w_case : (Jvm.Cond.and given_1 narrow_1).before args0 about1 = true := by decide +kernel
theorem w_applies : (headSpec (Jvm.Cond.code x code maxLocals ret :: tables_1) room_1).applies x e0.platform about1 = true :=
  (Spec.applies_iff w_frames).mpr ⟨w_running, w_runnable, w_alone, w_named, w_hears, w_ripe, w_room, w_tables⟩
theorem atStart : AtStart classFile x code maxLocals ret World_1 tables_1 room_1 Calls_1 rest_1 Pre_1 launch0 p0 e0 about1 theMethod args0 below0 :=
  ⟨lists_1, trivial, launch0.admits_env _ _ _, launch0.least_env, fairChoices_fair.cas, fairChoices_fair.clock, w_frames, w_args, w_heap, w_applies, trivial, trivial, w_case⟩
end start1
theorem witness_1 : WitnessClaimed_1 := ⟨start1.p0, start1.e0, start1.about1, start1.theMethod, start1.args0, start1.below0, start1.atStart⟩
end Jvm.Pilot.@@N@@
