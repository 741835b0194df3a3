import JvmDerived
import JvmDerived.Pilot.@@N@@Statement
import JvmDerived.Pilot.@@N@@Code
set_option linter.unusedVariables false
set_option linter.unusedSimpArgs false
namespace Jvm.Pilot.@@N@@
open Jvm Jvm.ClassFile Sem Op Lib Jvm.Free Jvm.Stand Jvm.LawKit Jvm.RoadKit Bundle Jvm.Pilot.@@N@@.Jvm.D
section OwnKit
variable {p : Program} {l : Launch} {e : Env} {R : Room} {s : State} {m : MethodId} {args : Array Value} {below : List Frame} {meth : Method} {c : Code} {T : State} {locs : List Loc} {cells slots : Nat} {Z : State} {a0 : Array Value} {h : Heap} {K N : Nat} {Q : Option Value → Heap → List Loc → Prop} {pc nx tg : Nat} {Ls : Array Slot} {st : List Value} {bs : ByteArray} {o : Int}
/-- from the frame g at T the run ends, returning, as Q says -/
def Wp (p : Program) (e : Env) (below : List Frame) (s : State) (K N : Nat) (Q : Option Value → Heap → List Loc → Prop) (T : State) (g : JFrame) : Prop :=
  ∃ s₂ o, Steps p.tables e below (T.setTop g) s₂ ∧ s₂.status = .running ∧ Ended s₂ below o ∧ ∃ v L, o = .returned v ∧ Q v s₂.heap L ∧ FrameEnd s o s₂ L K N
theorem Wp.go {T' : State} {g g' : JFrame} (st : ∀ target, Steps p.tables e below (T'.setTop g') target → Steps p.tables e below (T.setTop g) target) (k : Wp p e below s K N Q T' g') : Wp p e below s K N Q T g := by
  obtain ⟨s₂, o, h1, h2⟩ := k; exact ⟨s₂, o, st _ h1, h2⟩
theorem Wp.tr {T' : State} {g g' : JFrame} (st : Steps p.tables e below (T.setTop g) (T'.setTop g')) (k : Wp p e below s K N Q T' g') : Wp p e below s K N Q T g := by
  obtain ⟨s₂, o, h1, h2⟩ := k; exact ⟨s₂, o, st.trans h1, h2⟩
/-- the instruction i, len bytes long, stands at pc; the next one at nx -/
def In (bs : ByteArray) (pc : Nat) (i : Instr) (len nx : Nat) : Prop := decode bs pc = .ok (i, len) ∧ pc + len = nx
/-- a jump by o: the next one at nx, the target at tg -/
def Jm (bs : ByteArray) (pc : Nat) (i : Instr) (o : Int) (nx tg : Nat) : Prop := decode bs pc = .ok (i, 3) ∧ pc + 3 = nx ∧ 0 ≤ (pc : Int) + o ∧ ((pc : Int) + o).toNat = tg

theorem w_iadd (X : Stand p l e R s m args below meth c T locs cells slots) (hx : p.tables.exec = Jvm.exec) (hby : c.code = bs) {x y : Int32} (hd : In bs pc (.iadd) 1 nx) (k : Wp p e below s K N Q T (mkF m nx Ls (.int (x + y) :: st))) : Wp p e below s K N Q T (mkF m pc Ls (.int y :: .int x :: st)) := by
  obtain ⟨d, rfl⟩ := hd; exact Wp.go (fun t kk => XS.iadd X.here hx rfl (hb hby d) rfl kk) k
theorem w_isub (X : Stand p l e R s m args below meth c T locs cells slots) (hx : p.tables.exec = Jvm.exec) (hby : c.code = bs) {x y : Int32} (hd : In bs pc (.isub) 1 nx) (k : Wp p e below s K N Q T (mkF m nx Ls (.int (x - y) :: st))) : Wp p e below s K N Q T (mkF m pc Ls (.int y :: .int x :: st)) := by
  obtain ⟨d, rfl⟩ := hd; exact Wp.go (fun t kk => XS.isub X.here hx rfl (hb hby d) rfl kk) k
theorem w_iand (X : Stand p l e R s m args below meth c T locs cells slots) (hx : p.tables.exec = Jvm.exec) (hby : c.code = bs) {x y : Int32} (hd : In bs pc (.iand) 1 nx) (k : Wp p e below s K N Q T (mkF m nx Ls (.int (x &&& y) :: st))) : Wp p e below s K N Q T (mkF m pc Ls (.int y :: .int x :: st)) := by
  obtain ⟨d, rfl⟩ := hd; exact Wp.go (fun t kk => XS.iand X.here hx rfl (hb hby d) rfl kk) k
theorem w_imul (X : Stand p l e R s m args below meth c T locs cells slots) (hx : p.tables.exec = Jvm.exec) (hby : c.code = bs) {x y : Int32} (hd : In bs pc (.imul) 1 nx) (k : Wp p e below s K N Q T (mkF m nx Ls (.int (x * y) :: st))) : Wp p e below s K N Q T (mkF m pc Ls (.int y :: .int x :: st)) := by
  obtain ⟨d, rfl⟩ := hd; exact Wp.go (fun t kk => XS.imul X.here hx rfl (hb hby d) rfl kk) k
theorem w_ior (X : Stand p l e R s m args below meth c T locs cells slots) (hx : p.tables.exec = Jvm.exec) (hby : c.code = bs) {x y : Int32} (hd : In bs pc (.ior) 1 nx) (k : Wp p e below s K N Q T (mkF m nx Ls (.int (x ||| y) :: st))) : Wp p e below s K N Q T (mkF m pc Ls (.int y :: .int x :: st)) := by
  obtain ⟨d, rfl⟩ := hd; exact Wp.go (fun t kk => XS.ior X.here hx rfl (hb hby d) rfl kk) k
theorem w_ixor (X : Stand p l e R s m args below meth c T locs cells slots) (hx : p.tables.exec = Jvm.exec) (hby : c.code = bs) {x y : Int32} (hd : In bs pc (.ixor) 1 nx) (k : Wp p e below s K N Q T (mkF m nx Ls (.int (x ^^^ y) :: st))) : Wp p e below s K N Q T (mkF m pc Ls (.int y :: .int x :: st)) := by
  obtain ⟨d, rfl⟩ := hd; exact Wp.go (fun t kk => XS.ixor X.here hx rfl (hb hby d) rfl kk) k
theorem w_ishl (X : Stand p l e R s m args below meth c T locs cells slots) (hx : p.tables.exec = Jvm.exec) (hby : c.code = bs) {x y : Int32} (hd : In bs pc (.ishl) 1 nx) (k : Wp p e below s K N Q T (mkF m nx Ls (.int (x <<< (y &&& 31)) :: st))) : Wp p e below s K N Q T (mkF m pc Ls (.int y :: .int x :: st)) := by
  obtain ⟨d, rfl⟩ := hd; exact Wp.go (fun t kk => XS.ishl X.here hx rfl (hb hby d) rfl kk) k
theorem w_ishr (X : Stand p l e R s m args below meth c T locs cells slots) (hx : p.tables.exec = Jvm.exec) (hby : c.code = bs) {x y : Int32} (hd : In bs pc (.ishr) 1 nx) (k : Wp p e below s K N Q T (mkF m nx Ls (.int (x >>> (y &&& 31)) :: st))) : Wp p e below s K N Q T (mkF m pc Ls (.int y :: .int x :: st)) := by
  obtain ⟨d, rfl⟩ := hd; exact Wp.go (fun t kk => XS.ishr X.here hx rfl (hb hby d) rfl kk) k
theorem w_iushr (X : Stand p l e R s m args below meth c T locs cells slots) (hx : p.tables.exec = Jvm.exec) (hby : c.code = bs) {x y : Int32} (hd : In bs pc (.iushr) 1 nx) (k : Wp p e below s K N Q T (mkF m nx Ls (.int ((x.toUInt32 >>> (y &&& 31).toUInt32).toInt32) :: st))) : Wp p e below s K N Q T (mkF m pc Ls (.int y :: .int x :: st)) := by
  obtain ⟨d, rfl⟩ := hd; exact Wp.go (fun t kk => XS.iushr X.here hx rfl (hb hby d) rfl kk) k
theorem w_ladd (X : Stand p l e R s m args below meth c T locs cells slots) (hx : p.tables.exec = Jvm.exec) (hby : c.code = bs) {x y : Int64} (hd : In bs pc (.ladd) 1 nx) (k : Wp p e below s K N Q T (mkF m nx Ls (.long (x + y) :: st))) : Wp p e below s K N Q T (mkF m pc Ls (.long y :: .long x :: st)) := by
  obtain ⟨d, rfl⟩ := hd; exact Wp.go (fun t kk => XS.ladd X.here hx rfl (hb hby d) rfl kk) k
theorem w_lsub (X : Stand p l e R s m args below meth c T locs cells slots) (hx : p.tables.exec = Jvm.exec) (hby : c.code = bs) {x y : Int64} (hd : In bs pc (.lsub) 1 nx) (k : Wp p e below s K N Q T (mkF m nx Ls (.long (x - y) :: st))) : Wp p e below s K N Q T (mkF m pc Ls (.long y :: .long x :: st)) := by
  obtain ⟨d, rfl⟩ := hd; exact Wp.go (fun t kk => XS.lsub X.here hx rfl (hb hby d) rfl kk) k
theorem w_land (X : Stand p l e R s m args below meth c T locs cells slots) (hx : p.tables.exec = Jvm.exec) (hby : c.code = bs) {x y : Int64} (hd : In bs pc (.land) 1 nx) (k : Wp p e below s K N Q T (mkF m nx Ls (.long (x &&& y) :: st))) : Wp p e below s K N Q T (mkF m pc Ls (.long y :: .long x :: st)) := by
  obtain ⟨d, rfl⟩ := hd; exact Wp.go (fun t kk => XS.land X.here hx rfl (hb hby d) rfl kk) k
theorem w_lmul (X : Stand p l e R s m args below meth c T locs cells slots) (hx : p.tables.exec = Jvm.exec) (hby : c.code = bs) {x y : Int64} (hd : In bs pc (.lmul) 1 nx) (k : Wp p e below s K N Q T (mkF m nx Ls (.long (x * y) :: st))) : Wp p e below s K N Q T (mkF m pc Ls (.long y :: .long x :: st)) := by
  obtain ⟨d, rfl⟩ := hd; exact Wp.go (fun t kk => XS.lmul X.here hx rfl (hb hby d) rfl kk) k
theorem w_lor (X : Stand p l e R s m args below meth c T locs cells slots) (hx : p.tables.exec = Jvm.exec) (hby : c.code = bs) {x y : Int64} (hd : In bs pc (.lor) 1 nx) (k : Wp p e below s K N Q T (mkF m nx Ls (.long (x ||| y) :: st))) : Wp p e below s K N Q T (mkF m pc Ls (.long y :: .long x :: st)) := by
  obtain ⟨d, rfl⟩ := hd; exact Wp.go (fun t kk => XS.lor X.here hx rfl (hb hby d) rfl kk) k
theorem w_lxor (X : Stand p l e R s m args below meth c T locs cells slots) (hx : p.tables.exec = Jvm.exec) (hby : c.code = bs) {x y : Int64} (hd : In bs pc (.lxor) 1 nx) (k : Wp p e below s K N Q T (mkF m nx Ls (.long (x ^^^ y) :: st))) : Wp p e below s K N Q T (mkF m pc Ls (.long y :: .long x :: st)) := by
  obtain ⟨d, rfl⟩ := hd; exact Wp.go (fun t kk => XS.lxor X.here hx rfl (hb hby d) rfl kk) k
theorem w_lshl (X : Stand p l e R s m args below meth c T locs cells slots) (hx : p.tables.exec = Jvm.exec) (hby : c.code = bs) {x : Int64} {y : Int32} (hd : In bs pc (.lshl) 1 nx) (k : Wp p e below s K N Q T (mkF m nx Ls (.long (x <<< (y &&& 0x3f).toInt64) :: st))) : Wp p e below s K N Q T (mkF m pc Ls (.int y :: .long x :: st)) := by
  obtain ⟨d, rfl⟩ := hd; exact Wp.go (fun t kk => XS.lshl X.here hx rfl (hb hby d) rfl kk) k
theorem w_lshr (X : Stand p l e R s m args below meth c T locs cells slots) (hx : p.tables.exec = Jvm.exec) (hby : c.code = bs) {x : Int64} {y : Int32} (hd : In bs pc (.lshr) 1 nx) (k : Wp p e below s K N Q T (mkF m nx Ls (.long (x >>> (y &&& 0x3f).toInt64) :: st))) : Wp p e below s K N Q T (mkF m pc Ls (.int y :: .long x :: st)) := by
  obtain ⟨d, rfl⟩ := hd; exact Wp.go (fun t kk => XS.lshr X.here hx rfl (hb hby d) rfl kk) k
theorem w_lushr (X : Stand p l e R s m args below meth c T locs cells slots) (hx : p.tables.exec = Jvm.exec) (hby : c.code = bs) {x : Int64} {y : Int32} (hd : In bs pc (.lushr) 1 nx) (k : Wp p e below s K N Q T (mkF m nx Ls (.long ((x.toUInt64 >>> (y &&& 0x3f).toInt64.toUInt64).toInt64) :: st))) : Wp p e below s K N Q T (mkF m pc Ls (.int y :: .long x :: st)) := by
  obtain ⟨d, rfl⟩ := hd; exact Wp.go (fun t kk => XS.lushr X.here hx rfl (hb hby d) rfl kk) k
theorem w_i2b (X : Stand p l e R s m args below meth c T locs cells slots) (hx : p.tables.exec = Jvm.exec) (hby : c.code = bs) {x : Int32} (hd : In bs pc (.i2b) 1 nx) (k : Wp p e below s K N Q T (mkF m nx Ls (.int (x.toInt8.toInt32) :: st))) : Wp p e below s K N Q T (mkF m pc Ls (.int x :: st)) := by
  obtain ⟨d, rfl⟩ := hd; exact Wp.go (fun t kk => XS.i2b X.here hx rfl (hb hby d) rfl kk) k
theorem w_i2c (X : Stand p l e R s m args below meth c T locs cells slots) (hx : p.tables.exec = Jvm.exec) (hby : c.code = bs) {x : Int32} (hd : In bs pc (.i2c) 1 nx) (k : Wp p e below s K N Q T (mkF m nx Ls (.int (x.toUInt32.toUInt16.toUInt32.toInt32) :: st))) : Wp p e below s K N Q T (mkF m pc Ls (.int x :: st)) := by
  obtain ⟨d, rfl⟩ := hd; exact Wp.go (fun t kk => XS.i2c X.here hx rfl (hb hby d) rfl kk) k
theorem w_i2s (X : Stand p l e R s m args below meth c T locs cells slots) (hx : p.tables.exec = Jvm.exec) (hby : c.code = bs) {x : Int32} (hd : In bs pc (.i2s) 1 nx) (k : Wp p e below s K N Q T (mkF m nx Ls (.int (x.toInt16.toInt32) :: st))) : Wp p e below s K N Q T (mkF m pc Ls (.int x :: st)) := by
  obtain ⟨d, rfl⟩ := hd; exact Wp.go (fun t kk => XS.i2s X.here hx rfl (hb hby d) rfl kk) k
theorem w_ineg (X : Stand p l e R s m args below meth c T locs cells slots) (hx : p.tables.exec = Jvm.exec) (hby : c.code = bs) {x : Int32} (hd : In bs pc (.ineg) 1 nx) (k : Wp p e below s K N Q T (mkF m nx Ls (.int (-x) :: st))) : Wp p e below s K N Q T (mkF m pc Ls (.int x :: st)) := by
  obtain ⟨d, rfl⟩ := hd; exact Wp.go (fun t kk => XS.ineg X.here hx rfl (hb hby d) rfl kk) k
theorem w_i2l (X : Stand p l e R s m args below meth c T locs cells slots) (hx : p.tables.exec = Jvm.exec) (hby : c.code = bs) {x : Int32} (hd : In bs pc (.i2l) 1 nx) (k : Wp p e below s K N Q T (mkF m nx Ls (.long x.toInt64 :: st))) : Wp p e below s K N Q T (mkF m pc Ls (.int x :: st)) := by
  obtain ⟨d, rfl⟩ := hd; exact Wp.go (fun t kk => XS.i2l X.here hx rfl (hb hby d) rfl kk) k
theorem w_l2i (X : Stand p l e R s m args below meth c T locs cells slots) (hx : p.tables.exec = Jvm.exec) (hby : c.code = bs) {x : Int64} (hd : In bs pc (.l2i) 1 nx) (k : Wp p e below s K N Q T (mkF m nx Ls (.int x.toInt32 :: st))) : Wp p e below s K N Q T (mkF m pc Ls (.long x :: st)) := by
  obtain ⟨d, rfl⟩ := hd; exact Wp.go (fun t kk => XS.l2i X.here hx rfl (hb hby d) rfl kk) k
theorem w_lneg (X : Stand p l e R s m args below meth c T locs cells slots) (hx : p.tables.exec = Jvm.exec) (hby : c.code = bs) {x : Int64} (hd : In bs pc (.lneg) 1 nx) (k : Wp p e below s K N Q T (mkF m nx Ls (.long (-x) :: st))) : Wp p e below s K N Q T (mkF m pc Ls (.long x :: st)) := by
  obtain ⟨d, rfl⟩ := hd; exact Wp.go (fun t kk => XS.lneg X.here hx rfl (hb hby d) rfl kk) k
theorem w_idiv (X : Stand p l e R s m args below meth c T locs cells slots) (hx : p.tables.exec = Jvm.exec) (hby : c.code = bs) {x y : Int32} (hd : In bs pc (.idiv) 1 nx) (hy : y ≠ 0) (k : Wp p e below s K N Q T (mkF m nx Ls (.int (x / y) :: st))) : Wp p e below s K N Q T (mkF m pc Ls (.int y :: .int x :: st)) := by
  obtain ⟨d, rfl⟩ := hd; exact Wp.go (fun t kk => XS.idiv X.here hx rfl (hb hby d) rfl hy kk) k
theorem w_irem (X : Stand p l e R s m args below meth c T locs cells slots) (hx : p.tables.exec = Jvm.exec) (hby : c.code = bs) {x y : Int32} (hd : In bs pc .irem 1 nx) (hy : y ≠ 0) (k : Wp p e below s K N Q T (mkF m nx Ls (.int (x % y) :: st))) : Wp p e below s K N Q T (mkF m pc Ls (.int y :: .int x :: st)) := by
  obtain ⟨d, rfl⟩ := hd; exact Wp.go (fun t kk => iremM X hx rfl (hb hby d) rfl hy kk) k
theorem w_ldiv (X : Stand p l e R s m args below meth c T locs cells slots) (hx : p.tables.exec = Jvm.exec) (hby : c.code = bs) {x y : Int64} (hd : In bs pc (.ldiv) 1 nx) (hy : y ≠ 0) (k : Wp p e below s K N Q T (mkF m nx Ls (.long (x / y) :: st))) : Wp p e below s K N Q T (mkF m pc Ls (.long y :: .long x :: st)) := by
  obtain ⟨d, rfl⟩ := hd; exact Wp.go (fun t kk => XS.ldiv X.here hx rfl (hb hby d) rfl hy kk) k
theorem w_lrem (X : Stand p l e R s m args below meth c T locs cells slots) (hx : p.tables.exec = Jvm.exec) (hby : c.code = bs) {x y : Int64} (hd : In bs pc .lrem 1 nx) (hy : y ≠ 0) (k : Wp p e below s K N Q T (mkF m nx Ls (.long (x % y) :: st))) : Wp p e below s K N Q T (mkF m pc Ls (.long y :: .long x :: st)) := by
  obtain ⟨d, rfl⟩ := hd; refine Wp.go (fun t kk => XS.lrem X.here hx rfl (hb hby d) rfl hy kk) ?_; rw [lrem_mod]; exact k
theorem w_aconst_null (X : Stand p l e R s m args below meth c T locs cells slots) (hx : p.tables.exec = Jvm.exec) (hby : c.code = bs)  (hd : In bs pc (.aconst_null) 1 nx) (k : Wp p e below s K N Q T (mkF m nx Ls (.null :: st))) : Wp p e below s K N Q T (mkF m pc Ls (st)) := by
  obtain ⟨d, rfl⟩ := hd; exact Wp.go (fun t kk => XS.aconstNull X.here hx rfl (hb hby d) kk) k
theorem w_dup (X : Stand p l e R s m args below meth c T locs cells slots) (hx : p.tables.exec = Jvm.exec) (hby : c.code = bs) {x : Value} (hd : In bs pc (.dup) 1 nx) (hc : x.category = 1) (k : Wp p e below s K N Q T (mkF m nx Ls (x :: x :: st))) : Wp p e below s K N Q T (mkF m pc Ls (x :: st)) := by
  obtain ⟨d, rfl⟩ := hd; exact Wp.go (fun t kk => XS.dup X.here hx rfl (hb hby d) rfl hc kk) k
theorem w_dup_x1 (X : Stand p l e R s m args below meth c T locs cells slots) (hx : p.tables.exec = Jvm.exec) (hby : c.code = bs) {x y : Value} (hd : In bs pc (.dup_x1) 1 nx) (hc : x.category = 1) (hc2 : y.category = 1) (k : Wp p e below s K N Q T (mkF m nx Ls (x :: y :: x :: st))) : Wp p e below s K N Q T (mkF m pc Ls (x :: y :: st)) := by
  obtain ⟨d, rfl⟩ := hd; exact Wp.go (fun t kk => XS.dupX1 X.here hx rfl (hb hby d) rfl hc hc2 kk) k
theorem w_dup2 (X : Stand p l e R s m args below meth c T locs cells slots) (hx : p.tables.exec = Jvm.exec) (hby : c.code = bs) {x y : Value} (hd : In bs pc (.dup2) 1 nx) (hc : x.category = 1) (hc2 : y.category = 1) (k : Wp p e below s K N Q T (mkF m nx Ls (x :: y :: x :: y :: st))) : Wp p e below s K N Q T (mkF m pc Ls (x :: y :: st)) := by
  obtain ⟨d, rfl⟩ := hd; exact Wp.go (fun t kk => XT.dup2 X.here hx rfl (hb hby d) rfl hc hc2 kk) k
theorem w_dup2L (X : Stand p l e R s m args below meth c T locs cells slots) (hx : p.tables.exec = Jvm.exec) (hby : c.code = bs) {x : Int64} (hd : In bs pc (.dup2) 1 nx) (k : Wp p e below s K N Q T (mkF m nx Ls (.long x :: .long x :: st))) : Wp p e below s K N Q T (mkF m pc Ls (.long x :: st)) := by
  obtain ⟨d, rfl⟩ := hd; exact Wp.go (fun t kk => XT.dup2L X.here hx rfl (hb hby d) rfl kk) k
theorem w_pop (X : Stand p l e R s m args below meth c T locs cells slots) (hx : p.tables.exec = Jvm.exec) (hby : c.code = bs) {x : Value} (hd : In bs pc (.pop) 1 nx) (hc : x.category = 1) (k : Wp p e below s K N Q T (mkF m nx Ls (st))) : Wp p e below s K N Q T (mkF m pc Ls (x :: st)) := by
  obtain ⟨d, rfl⟩ := hd; exact Wp.go (fun t kk => XS.pop X.here hx rfl (hb hby d) rfl hc kk) k
theorem w_iconst (X : Stand p l e R s m args below meth c T locs cells slots) (hx : p.tables.exec = Jvm.exec) (hby : c.code = bs) {i : Int} (v : Int32) (hd : In bs pc (.iconst i) 1 nx) (hv : Int32.ofInt i = v) (k : Wp p e below s K N Q T (mkF m nx Ls (.int v :: st))) : Wp p e below s K N Q T (mkF m pc Ls (st)) := by
  obtain ⟨d, rfl⟩ := hd; exact Wp.go (fun t kk => XT.iconstV X.here hx rfl v (hb hby d) hv kk) k
theorem w_bipush (X : Stand p l e R s m args below meth c T locs cells slots) (hx : p.tables.exec = Jvm.exec) (hby : c.code = bs) {i : Int} (v : Int32) (hd : In bs pc (.bipush i) 2 nx) (hv : (Int8.ofInt i).toInt32 = v) (k : Wp p e below s K N Q T (mkF m nx Ls (.int v :: st))) : Wp p e below s K N Q T (mkF m pc Ls (st)) := by
  obtain ⟨d, rfl⟩ := hd; exact Wp.go (fun t kk => XT.bipushV X.here hx rfl v (hb hby d) hv kk) k
theorem w_sipush (X : Stand p l e R s m args below meth c T locs cells slots) (hx : p.tables.exec = Jvm.exec) (hby : c.code = bs) {i : Int} (v : Int32) (hd : In bs pc (.sipush i) 3 nx) (hv : (Int16.ofInt i).toInt32 = v) (k : Wp p e below s K N Q T (mkF m nx Ls (.int v :: st))) : Wp p e below s K N Q T (mkF m pc Ls (st)) := by
  obtain ⟨d, rfl⟩ := hd; exact Wp.go (fun t kk => XT.sipushV X.here hx rfl v (hb hby d) hv kk) k
theorem w_lconst (X : Stand p l e R s m args below meth c T locs cells slots) (hx : p.tables.exec = Jvm.exec) (hby : c.code = bs) {i : Fin 2} (v : Int64) (hd : In bs pc (.lconst i) 1 nx) (hv : Int64.ofNat i = v) (k : Wp p e below s K N Q T (mkF m nx Ls (.long v :: st))) : Wp p e below s K N Q T (mkF m pc Ls (st)) := by
  obtain ⟨d, rfl⟩ := hd; exact Wp.go (fun t kk => XT.lconstV X.here hx rfl v (hb hby d) hv kk) k
theorem w_iloadN (X : Stand p l e R s m args below meth c T locs cells slots) (hx : p.tables.exec = Jvm.exec) (hby : c.code = bs) {i : Fin 4} {v : Int32} (hd : In bs pc (.iload_n i) 1 nx) (hl : Ls[i.val]? = some (.val (.int v))) (k : Wp p e below s K N Q T (mkF m nx Ls (.int v :: st))) : Wp p e below s K N Q T (mkF m pc Ls (st)) := by
  obtain ⟨d, rfl⟩ := hd; exact Wp.go (fun t kk => XS.iloadN X.here hx rfl (hb hby d) hl kk) k
theorem w_lloadN (X : Stand p l e R s m args below meth c T locs cells slots) (hx : p.tables.exec = Jvm.exec) (hby : c.code = bs) {i : Fin 4} {v : Int64} (hd : In bs pc (.lload_n i) 1 nx) (hl : Ls[i.val]? = some (.val (.long v))) (k : Wp p e below s K N Q T (mkF m nx Ls (.long v :: st))) : Wp p e below s K N Q T (mkF m pc Ls (st)) := by
  obtain ⟨d, rfl⟩ := hd; exact Wp.go (fun t kk => XS.lloadN X.here hx rfl (hb hby d) hl kk) k
theorem w_aloadN (X : Stand p l e R s m args below meth c T locs cells slots) (hx : p.tables.exec = Jvm.exec) (hby : c.code = bs) {i : Fin 4} {v : Value} (hd : In bs pc (.aload_n i) 1 nx) (hl : Ls[i.val]? = some (.val v)) (hv : v.isRef = true) (k : Wp p e below s K N Q T (mkF m nx Ls (v :: st))) : Wp p e below s K N Q T (mkF m pc Ls (st)) := by
  obtain ⟨d, rfl⟩ := hd; exact Wp.go (fun t kk => XS.aloadN X.here hx rfl (hb hby d) hl hv kk) k
theorem w_istoreN (X : Stand p l e R s m args below meth c T locs cells slots) (hx : p.tables.exec = Jvm.exec) (hby : c.code = bs) {i : Fin 4} {v : Int32} (l' : Array Slot) (hd : In bs pc (.istore_n i) 1 nx) (hl : storeLocals Ls i.val (.int v) = some l') (k : Wp p e below s K N Q T (mkF m nx l' (st))) : Wp p e below s K N Q T (mkF m pc Ls (.int v :: st)) := by
  obtain ⟨d, rfl⟩ := hd; exact Wp.go (fun t kk => XS.istoreN X.here hx rfl (hb hby d) rfl hl kk) k
theorem w_lstoreN (X : Stand p l e R s m args below meth c T locs cells slots) (hx : p.tables.exec = Jvm.exec) (hby : c.code = bs) {i : Fin 4} {v : Int64} (l' : Array Slot) (hd : In bs pc (.lstore_n i) 1 nx) (hl : storeLocals Ls i.val (.long v) = some l') (k : Wp p e below s K N Q T (mkF m nx l' (st))) : Wp p e below s K N Q T (mkF m pc Ls (.long v :: st)) := by
  obtain ⟨d, rfl⟩ := hd; exact Wp.go (fun t kk => XS.lstoreN X.here hx rfl (hb hby d) rfl hl kk) k
theorem w_astoreN (X : Stand p l e R s m args below meth c T locs cells slots) (hx : p.tables.exec = Jvm.exec) (hby : c.code = bs) {i : Fin 4} {v : Value} (l' : Array Slot) (hd : In bs pc (.astore_n i) 1 nx) (hv : v.isRef = true) (hl : storeLocals Ls i.val v = some l') (k : Wp p e below s K N Q T (mkF m nx l' (st))) : Wp p e below s K N Q T (mkF m pc Ls (v :: st)) := by
  obtain ⟨d, rfl⟩ := hd; exact Wp.go (fun t kk => XS.astoreN X.here hx rfl (hb hby d) rfl hv hl kk) k
theorem w_iload (X : Stand p l e R s m args below meth c T locs cells slots) (hx : p.tables.exec = Jvm.exec) (hby : c.code = bs) {i : Nat} {v : Int32} (hd : In bs pc (.iload i) 2 nx) (hl : Ls[i]? = some (.val (.int v))) (k : Wp p e below s K N Q T (mkF m nx Ls (.int v :: st))) : Wp p e below s K N Q T (mkF m pc Ls (st)) := by
  obtain ⟨d, rfl⟩ := hd; exact Wp.go (fun t kk => XS.iload X.here hx rfl (hb hby d) hl kk) k
theorem w_lload (X : Stand p l e R s m args below meth c T locs cells slots) (hx : p.tables.exec = Jvm.exec) (hby : c.code = bs) {i : Nat} {v : Int64} (hd : In bs pc (.lload i) 2 nx) (hl : Ls[i]? = some (.val (.long v))) (k : Wp p e below s K N Q T (mkF m nx Ls (.long v :: st))) : Wp p e below s K N Q T (mkF m pc Ls (st)) := by
  obtain ⟨d, rfl⟩ := hd; exact Wp.go (fun t kk => XS.lload X.here hx rfl (hb hby d) hl kk) k
theorem w_aload (X : Stand p l e R s m args below meth c T locs cells slots) (hx : p.tables.exec = Jvm.exec) (hby : c.code = bs) {i : Nat} {v : Value} (hd : In bs pc (.aload i) 2 nx) (hl : Ls[i]? = some (.val v)) (hv : v.isRef = true) (k : Wp p e below s K N Q T (mkF m nx Ls (v :: st))) : Wp p e below s K N Q T (mkF m pc Ls (st)) := by
  obtain ⟨d, rfl⟩ := hd; exact Wp.go (fun t kk => XS.aload X.here hx rfl (hb hby d) hl hv kk) k
theorem w_istore (X : Stand p l e R s m args below meth c T locs cells slots) (hx : p.tables.exec = Jvm.exec) (hby : c.code = bs) {i : Nat} {v : Int32} (l' : Array Slot) (hd : In bs pc (.istore i) 2 nx) (hl : storeLocals Ls i (.int v) = some l') (k : Wp p e below s K N Q T (mkF m nx l' (st))) : Wp p e below s K N Q T (mkF m pc Ls (.int v :: st)) := by
  obtain ⟨d, rfl⟩ := hd; exact Wp.go (fun t kk => XS.istore X.here hx rfl (hb hby d) rfl hl kk) k
theorem w_lstore (X : Stand p l e R s m args below meth c T locs cells slots) (hx : p.tables.exec = Jvm.exec) (hby : c.code = bs) {i : Nat} {v : Int64} (l' : Array Slot) (hd : In bs pc (.lstore i) 2 nx) (hl : storeLocals Ls i (.long v) = some l') (k : Wp p e below s K N Q T (mkF m nx l' (st))) : Wp p e below s K N Q T (mkF m pc Ls (.long v :: st)) := by
  obtain ⟨d, rfl⟩ := hd; exact Wp.go (fun t kk => XS.lstore X.here hx rfl (hb hby d) rfl hl kk) k
theorem w_astore (X : Stand p l e R s m args below meth c T locs cells slots) (hx : p.tables.exec = Jvm.exec) (hby : c.code = bs) {i : Nat} {v : Value} (l' : Array Slot) (hd : In bs pc (.astore i) 2 nx) (hv : v.isRef = true) (hl : storeLocals Ls i v = some l') (k : Wp p e below s K N Q T (mkF m nx l' (st))) : Wp p e below s K N Q T (mkF m pc Ls (v :: st)) := by
  obtain ⟨d, rfl⟩ := hd; exact Wp.go (fun t kk => XS.astore X.here hx rfl (hb hby d) rfl hv hl kk) k
theorem w_iinc (X : Stand p l e R s m args below meth c T locs cells slots) (hx : p.tables.exec = Jvm.exec) (hby : c.code = bs) {i : Nat} {cst : Int} {x : Int32} (v : Int32) (l' : Array Slot) (hd : In bs pc (.iinc i cst) 3 nx) (hv : Int32.ofInt cst = v) (hl : Ls[i]? = some (.val (.int x))) (hl' : storeLocals Ls i (.int (x + v)) = some l') (k : Wp p e below s K N Q T (mkF m nx l' st)) : Wp p e below s K N Q T (mkF m pc Ls st) := by
  obtain ⟨d, rfl⟩ := hd; exact Wp.go (fun t kk => XT.iincV X.here hx rfl v (hb hby d) hv hl hl' kk) k
theorem w_goto (X : Stand p l e R s m args below meth c T locs cells slots) (hx : p.tables.exec = Jvm.exec) (hby : c.code = bs) (hd : Jm bs pc (.goto o) o nx tg) (k : Wp p e below s K N Q T (mkF m tg Ls st)) : Wp p e below s K N Q T (mkF m pc Ls st) := by
  obtain ⟨d, -, q1, q2⟩ := hd; exact Wp.go (fun t kk => XS.goto X.here hx rfl rfl (hb hby d) q1 q2 kk) k
theorem f_icmp_eq (X : Stand p l e R s m args below meth c T locs cells slots) (hx : p.tables.exec = Jvm.exec) (hby : c.code = bs) {x y : Int32} (hd : Jm bs pc (.if_icmp .eq o) o nx tg) (kt : x = y → Wp p e below s K N Q T (mkF m tg Ls st)) (kf : ¬ x = y → Wp p e below s K N Q T (mkF m nx Ls st)) : Wp p e below s K N Q T (mkF m pc Ls (.int y :: .int x :: st)) := by
  obtain ⟨d, rfl, q1, q2⟩ := hd
  by_cases q : x = y
  · exact Wp.go (fun t kk => XS.icmpYes X.here hx rfl rfl (hb hby d) rfl (XT.ii_eq_t q) q1 q2 kk) (kt q)
  · exact Wp.go (fun t kk => XS.icmpNo X.here hx rfl (hb hby d) rfl (XT.ii_eq_f q) kk) (kf q)
theorem f_if_eq (X : Stand p l e R s m args below meth c T locs cells slots) (hx : p.tables.exec = Jvm.exec) (hby : c.code = bs) {x : Int32} (hd : Jm bs pc (.ifCond .eq o) o nx tg) (kt : x = 0 → Wp p e below s K N Q T (mkF m tg Ls st)) (kf : ¬ x = 0 → Wp p e below s K N Q T (mkF m nx Ls st)) : Wp p e below s K N Q T (mkF m pc Ls (.int x :: st)) := by
  obtain ⟨d, rfl, q1, q2⟩ := hd
  by_cases q : x = 0
  · exact Wp.go (fun t kk => XS.ifYes X.here hx rfl rfl (hb hby d) rfl (XT.i0_eq_t q) q1 q2 kk) (kt q)
  · exact Wp.go (fun t kk => XS.ifNo X.here hx rfl (hb hby d) rfl (XT.i0_eq_f q) kk) (kf q)
theorem f_lcmp_eq (X : Stand p l e R s m args below meth c T locs cells slots) (hx : p.tables.exec = Jvm.exec) (hby : c.code = bs) {x y : Int64} {n1 : Nat} (hc : In bs pc .lcmp 1 n1) (hd : Jm bs n1 (.ifCond .eq o) o nx tg) (kt : x = y → Wp p e below s K N Q T (mkF m tg Ls st)) (kf : ¬ x = y → Wp p e below s K N Q T (mkF m nx Ls st)) : Wp p e below s K N Q T (mkF m pc Ls (.long y :: .long x :: st)) := by
  obtain ⟨d1, rfl⟩ := hc; obtain ⟨d, rfl, q1, q2⟩ := hd
  refine Wp.go (fun t kk => XT.lcmp X.here hx rfl (hb hby d1) rfl kk) ?_
  by_cases q : x = y
  · exact Wp.go (fun t kk => XS.ifYes X.here hx rfl rfl (hb hby d) rfl (XT.ll_eq_t q) q1 q2 kk) (kt q)
  · exact Wp.go (fun t kk => XS.ifNo X.here hx rfl (hb hby d) rfl (XT.ll_eq_f q) kk) (kf q)
theorem f_icmp_ne (X : Stand p l e R s m args below meth c T locs cells slots) (hx : p.tables.exec = Jvm.exec) (hby : c.code = bs) {x y : Int32} (hd : Jm bs pc (.if_icmp .ne o) o nx tg) (kt : ¬ x = y → Wp p e below s K N Q T (mkF m tg Ls st)) (kf : x = y → Wp p e below s K N Q T (mkF m nx Ls st)) : Wp p e below s K N Q T (mkF m pc Ls (.int y :: .int x :: st)) := by
  obtain ⟨d, rfl, q1, q2⟩ := hd
  by_cases q : x = y
  · exact Wp.go (fun t kk => XS.icmpNo X.here hx rfl (hb hby d) rfl (XT.ii_ne_f q) kk) (kf q)
  · exact Wp.go (fun t kk => XS.icmpYes X.here hx rfl rfl (hb hby d) rfl (XT.ii_ne_t q) q1 q2 kk) (kt q)
theorem f_if_ne (X : Stand p l e R s m args below meth c T locs cells slots) (hx : p.tables.exec = Jvm.exec) (hby : c.code = bs) {x : Int32} (hd : Jm bs pc (.ifCond .ne o) o nx tg) (kt : ¬ x = 0 → Wp p e below s K N Q T (mkF m tg Ls st)) (kf : x = 0 → Wp p e below s K N Q T (mkF m nx Ls st)) : Wp p e below s K N Q T (mkF m pc Ls (.int x :: st)) := by
  obtain ⟨d, rfl, q1, q2⟩ := hd
  by_cases q : x = 0
  · exact Wp.go (fun t kk => XS.ifNo X.here hx rfl (hb hby d) rfl (XT.i0_ne_f q) kk) (kf q)
  · exact Wp.go (fun t kk => XS.ifYes X.here hx rfl rfl (hb hby d) rfl (XT.i0_ne_t q) q1 q2 kk) (kt q)
theorem f_lcmp_ne (X : Stand p l e R s m args below meth c T locs cells slots) (hx : p.tables.exec = Jvm.exec) (hby : c.code = bs) {x y : Int64} {n1 : Nat} (hc : In bs pc .lcmp 1 n1) (hd : Jm bs n1 (.ifCond .ne o) o nx tg) (kt : ¬ x = y → Wp p e below s K N Q T (mkF m tg Ls st)) (kf : x = y → Wp p e below s K N Q T (mkF m nx Ls st)) : Wp p e below s K N Q T (mkF m pc Ls (.long y :: .long x :: st)) := by
  obtain ⟨d1, rfl⟩ := hc; obtain ⟨d, rfl, q1, q2⟩ := hd
  refine Wp.go (fun t kk => XT.lcmp X.here hx rfl (hb hby d1) rfl kk) ?_
  by_cases q : x = y
  · exact Wp.go (fun t kk => XS.ifNo X.here hx rfl (hb hby d) rfl (XT.ll_ne_f q) kk) (kf q)
  · exact Wp.go (fun t kk => XS.ifYes X.here hx rfl rfl (hb hby d) rfl (XT.ll_ne_t q) q1 q2 kk) (kt q)
theorem f_icmp_lt (X : Stand p l e R s m args below meth c T locs cells slots) (hx : p.tables.exec = Jvm.exec) (hby : c.code = bs) {x y : Int32} (hd : Jm bs pc (.if_icmp .lt o) o nx tg) (kt : x < y → Wp p e below s K N Q T (mkF m tg Ls st)) (kf : ¬ x < y → Wp p e below s K N Q T (mkF m nx Ls st)) : Wp p e below s K N Q T (mkF m pc Ls (.int y :: .int x :: st)) := by
  obtain ⟨d, rfl, q1, q2⟩ := hd
  by_cases q : x < y
  · exact Wp.go (fun t kk => XS.icmpYes X.here hx rfl rfl (hb hby d) rfl (XT.ii_lt_t q) q1 q2 kk) (kt q)
  · exact Wp.go (fun t kk => XS.icmpNo X.here hx rfl (hb hby d) rfl (XT.ii_lt_f q) kk) (kf q)
theorem f_if_lt (X : Stand p l e R s m args below meth c T locs cells slots) (hx : p.tables.exec = Jvm.exec) (hby : c.code = bs) {x : Int32} (hd : Jm bs pc (.ifCond .lt o) o nx tg) (kt : x < 0 → Wp p e below s K N Q T (mkF m tg Ls st)) (kf : ¬ x < 0 → Wp p e below s K N Q T (mkF m nx Ls st)) : Wp p e below s K N Q T (mkF m pc Ls (.int x :: st)) := by
  obtain ⟨d, rfl, q1, q2⟩ := hd
  by_cases q : x < 0
  · exact Wp.go (fun t kk => XS.ifYes X.here hx rfl rfl (hb hby d) rfl (XT.i0_lt_t q) q1 q2 kk) (kt q)
  · exact Wp.go (fun t kk => XS.ifNo X.here hx rfl (hb hby d) rfl (XT.i0_lt_f q) kk) (kf q)
theorem f_lcmp_lt (X : Stand p l e R s m args below meth c T locs cells slots) (hx : p.tables.exec = Jvm.exec) (hby : c.code = bs) {x y : Int64} {n1 : Nat} (hc : In bs pc .lcmp 1 n1) (hd : Jm bs n1 (.ifCond .lt o) o nx tg) (kt : x < y → Wp p e below s K N Q T (mkF m tg Ls st)) (kf : ¬ x < y → Wp p e below s K N Q T (mkF m nx Ls st)) : Wp p e below s K N Q T (mkF m pc Ls (.long y :: .long x :: st)) := by
  obtain ⟨d1, rfl⟩ := hc; obtain ⟨d, rfl, q1, q2⟩ := hd
  refine Wp.go (fun t kk => XT.lcmp X.here hx rfl (hb hby d1) rfl kk) ?_
  by_cases q : x < y
  · exact Wp.go (fun t kk => XS.ifYes X.here hx rfl rfl (hb hby d) rfl (XT.ll_lt_t q) q1 q2 kk) (kt q)
  · exact Wp.go (fun t kk => XS.ifNo X.here hx rfl (hb hby d) rfl (XT.ll_lt_f q) kk) (kf q)
theorem f_icmp_ge (X : Stand p l e R s m args below meth c T locs cells slots) (hx : p.tables.exec = Jvm.exec) (hby : c.code = bs) {x y : Int32} (hd : Jm bs pc (.if_icmp .ge o) o nx tg) (kt : ¬ x < y → Wp p e below s K N Q T (mkF m tg Ls st)) (kf : x < y → Wp p e below s K N Q T (mkF m nx Ls st)) : Wp p e below s K N Q T (mkF m pc Ls (.int y :: .int x :: st)) := by
  obtain ⟨d, rfl, q1, q2⟩ := hd
  by_cases q : x < y
  · exact Wp.go (fun t kk => XS.icmpNo X.here hx rfl (hb hby d) rfl (XT.ii_ge_f q) kk) (kf q)
  · exact Wp.go (fun t kk => XS.icmpYes X.here hx rfl rfl (hb hby d) rfl (XT.ii_ge_t q) q1 q2 kk) (kt q)
theorem f_if_ge (X : Stand p l e R s m args below meth c T locs cells slots) (hx : p.tables.exec = Jvm.exec) (hby : c.code = bs) {x : Int32} (hd : Jm bs pc (.ifCond .ge o) o nx tg) (kt : ¬ x < 0 → Wp p e below s K N Q T (mkF m tg Ls st)) (kf : x < 0 → Wp p e below s K N Q T (mkF m nx Ls st)) : Wp p e below s K N Q T (mkF m pc Ls (.int x :: st)) := by
  obtain ⟨d, rfl, q1, q2⟩ := hd
  by_cases q : x < 0
  · exact Wp.go (fun t kk => XS.ifNo X.here hx rfl (hb hby d) rfl (XT.i0_ge_f q) kk) (kf q)
  · exact Wp.go (fun t kk => XS.ifYes X.here hx rfl rfl (hb hby d) rfl (XT.i0_ge_t q) q1 q2 kk) (kt q)
theorem f_lcmp_ge (X : Stand p l e R s m args below meth c T locs cells slots) (hx : p.tables.exec = Jvm.exec) (hby : c.code = bs) {x y : Int64} {n1 : Nat} (hc : In bs pc .lcmp 1 n1) (hd : Jm bs n1 (.ifCond .ge o) o nx tg) (kt : ¬ x < y → Wp p e below s K N Q T (mkF m tg Ls st)) (kf : x < y → Wp p e below s K N Q T (mkF m nx Ls st)) : Wp p e below s K N Q T (mkF m pc Ls (.long y :: .long x :: st)) := by
  obtain ⟨d1, rfl⟩ := hc; obtain ⟨d, rfl, q1, q2⟩ := hd
  refine Wp.go (fun t kk => XT.lcmp X.here hx rfl (hb hby d1) rfl kk) ?_
  by_cases q : x < y
  · exact Wp.go (fun t kk => XS.ifNo X.here hx rfl (hb hby d) rfl (XT.ll_ge_f q) kk) (kf q)
  · exact Wp.go (fun t kk => XS.ifYes X.here hx rfl rfl (hb hby d) rfl (XT.ll_ge_t q) q1 q2 kk) (kt q)
theorem f_icmp_gt (X : Stand p l e R s m args below meth c T locs cells slots) (hx : p.tables.exec = Jvm.exec) (hby : c.code = bs) {x y : Int32} (hd : Jm bs pc (.if_icmp .gt o) o nx tg) (kt : y < x → Wp p e below s K N Q T (mkF m tg Ls st)) (kf : ¬ y < x → Wp p e below s K N Q T (mkF m nx Ls st)) : Wp p e below s K N Q T (mkF m pc Ls (.int y :: .int x :: st)) := by
  obtain ⟨d, rfl, q1, q2⟩ := hd
  by_cases q : y < x
  · exact Wp.go (fun t kk => XS.icmpYes X.here hx rfl rfl (hb hby d) rfl (XT.ii_gt_t q) q1 q2 kk) (kt q)
  · exact Wp.go (fun t kk => XS.icmpNo X.here hx rfl (hb hby d) rfl (XT.ii_gt_f q) kk) (kf q)
theorem f_if_gt (X : Stand p l e R s m args below meth c T locs cells slots) (hx : p.tables.exec = Jvm.exec) (hby : c.code = bs) {x : Int32} (hd : Jm bs pc (.ifCond .gt o) o nx tg) (kt : 0 < x → Wp p e below s K N Q T (mkF m tg Ls st)) (kf : ¬ 0 < x → Wp p e below s K N Q T (mkF m nx Ls st)) : Wp p e below s K N Q T (mkF m pc Ls (.int x :: st)) := by
  obtain ⟨d, rfl, q1, q2⟩ := hd
  by_cases q : 0 < x
  · exact Wp.go (fun t kk => XS.ifYes X.here hx rfl rfl (hb hby d) rfl (XT.i0_gt_t q) q1 q2 kk) (kt q)
  · exact Wp.go (fun t kk => XS.ifNo X.here hx rfl (hb hby d) rfl (XT.i0_gt_f q) kk) (kf q)
theorem f_lcmp_gt (X : Stand p l e R s m args below meth c T locs cells slots) (hx : p.tables.exec = Jvm.exec) (hby : c.code = bs) {x y : Int64} {n1 : Nat} (hc : In bs pc .lcmp 1 n1) (hd : Jm bs n1 (.ifCond .gt o) o nx tg) (kt : y < x → Wp p e below s K N Q T (mkF m tg Ls st)) (kf : ¬ y < x → Wp p e below s K N Q T (mkF m nx Ls st)) : Wp p e below s K N Q T (mkF m pc Ls (.long y :: .long x :: st)) := by
  obtain ⟨d1, rfl⟩ := hc; obtain ⟨d, rfl, q1, q2⟩ := hd
  refine Wp.go (fun t kk => XT.lcmp X.here hx rfl (hb hby d1) rfl kk) ?_
  by_cases q : y < x
  · exact Wp.go (fun t kk => XS.ifYes X.here hx rfl rfl (hb hby d) rfl (XT.ll_gt_t q) q1 q2 kk) (kt q)
  · exact Wp.go (fun t kk => XS.ifNo X.here hx rfl (hb hby d) rfl (XT.ll_gt_f q) kk) (kf q)
theorem f_icmp_le (X : Stand p l e R s m args below meth c T locs cells slots) (hx : p.tables.exec = Jvm.exec) (hby : c.code = bs) {x y : Int32} (hd : Jm bs pc (.if_icmp .le o) o nx tg) (kt : ¬ y < x → Wp p e below s K N Q T (mkF m tg Ls st)) (kf : y < x → Wp p e below s K N Q T (mkF m nx Ls st)) : Wp p e below s K N Q T (mkF m pc Ls (.int y :: .int x :: st)) := by
  obtain ⟨d, rfl, q1, q2⟩ := hd
  by_cases q : y < x
  · exact Wp.go (fun t kk => XS.icmpNo X.here hx rfl (hb hby d) rfl (XT.ii_le_f q) kk) (kf q)
  · exact Wp.go (fun t kk => XS.icmpYes X.here hx rfl rfl (hb hby d) rfl (XT.ii_le_t q) q1 q2 kk) (kt q)
theorem f_if_le (X : Stand p l e R s m args below meth c T locs cells slots) (hx : p.tables.exec = Jvm.exec) (hby : c.code = bs) {x : Int32} (hd : Jm bs pc (.ifCond .le o) o nx tg) (kt : ¬ 0 < x → Wp p e below s K N Q T (mkF m tg Ls st)) (kf : 0 < x → Wp p e below s K N Q T (mkF m nx Ls st)) : Wp p e below s K N Q T (mkF m pc Ls (.int x :: st)) := by
  obtain ⟨d, rfl, q1, q2⟩ := hd
  by_cases q : 0 < x
  · exact Wp.go (fun t kk => XS.ifNo X.here hx rfl (hb hby d) rfl (XT.i0_le_f q) kk) (kf q)
  · exact Wp.go (fun t kk => XS.ifYes X.here hx rfl rfl (hb hby d) rfl (XT.i0_le_t q) q1 q2 kk) (kt q)
theorem f_lcmp_le (X : Stand p l e R s m args below meth c T locs cells slots) (hx : p.tables.exec = Jvm.exec) (hby : c.code = bs) {x y : Int64} {n1 : Nat} (hc : In bs pc .lcmp 1 n1) (hd : Jm bs n1 (.ifCond .le o) o nx tg) (kt : ¬ y < x → Wp p e below s K N Q T (mkF m tg Ls st)) (kf : y < x → Wp p e below s K N Q T (mkF m nx Ls st)) : Wp p e below s K N Q T (mkF m pc Ls (.long y :: .long x :: st)) := by
  obtain ⟨d1, rfl⟩ := hc; obtain ⟨d, rfl, q1, q2⟩ := hd
  refine Wp.go (fun t kk => XT.lcmp X.here hx rfl (hb hby d1) rfl kk) ?_
  by_cases q : y < x
  · exact Wp.go (fun t kk => XS.ifNo X.here hx rfl (hb hby d) rfl (XT.ll_le_f q) kk) (kf q)
  · exact Wp.go (fun t kk => XS.ifYes X.here hx rfl rfl (hb hby d) rfl (XT.ll_le_t q) q1 q2 kk) (kt q)
theorem f_acmp_eq (X : Stand p l e R s m args below meth c T locs cells slots) (hx : p.tables.exec = Jvm.exec) (hby : c.code = bs) {x y : Addr} (hd : Jm bs pc (.if_acmp .eq o) o nx tg) (kt : x = y → Wp p e below s K N Q T (mkF m tg Ls st)) (kf : ¬ x = y → Wp p e below s K N Q T (mkF m nx Ls st)) : Wp p e below s K N Q T (mkF m pc Ls (.ref y :: .ref x :: st)) := by
  obtain ⟨d, rfl, q1, q2⟩ := hd
  by_cases q : x = y
  · exact Wp.go (fun t kk => XT.acmpYes X.here hx rfl rfl (hb hby d) rfl rfl rfl (XT.aa_eq_t (congrArg Value.ref q)) q1 q2 kk) (kt q)
  · exact Wp.go (fun t kk => XT.acmpNo X.here hx rfl (hb hby d) rfl rfl rfl (XT.aa_eq_f (fun r => q (Value.ref.inj r))) kk) (kf q)
theorem f_acmpV_eq (X : Stand p l e R s m args below meth c T locs cells slots) (hx : p.tables.exec = Jvm.exec) (hby : c.code = bs) {x y : Value} (hx' : x.isRef = true) (hy' : y.isRef = true) (hd : Jm bs pc (.if_acmp .eq o) o nx tg) (kt : x = y → Wp p e below s K N Q T (mkF m tg Ls st)) (kf : ¬ x = y → Wp p e below s K N Q T (mkF m nx Ls st)) : Wp p e below s K N Q T (mkF m pc Ls (y :: x :: st)) := by
  obtain ⟨d, rfl, q1, q2⟩ := hd
  by_cases q : x = y
  · exact Wp.go (fun t kk => XT.acmpYes X.here hx rfl rfl (hb hby d) rfl hx' hy' (XT.aa_eq_t q) q1 q2 kk) (kt q)
  · exact Wp.go (fun t kk => XT.acmpNo X.here hx rfl (hb hby d) rfl hx' hy' (XT.aa_eq_f q) kk) (kf q)
theorem f_acmp_ne (X : Stand p l e R s m args below meth c T locs cells slots) (hx : p.tables.exec = Jvm.exec) (hby : c.code = bs) {x y : Addr} (hd : Jm bs pc (.if_acmp .ne o) o nx tg) (kt : ¬ x = y → Wp p e below s K N Q T (mkF m tg Ls st)) (kf : x = y → Wp p e below s K N Q T (mkF m nx Ls st)) : Wp p e below s K N Q T (mkF m pc Ls (.ref y :: .ref x :: st)) := by
  obtain ⟨d, rfl, q1, q2⟩ := hd
  by_cases q : x = y
  · exact Wp.go (fun t kk => XT.acmpNo X.here hx rfl (hb hby d) rfl rfl rfl (XT.aa_ne_f (congrArg Value.ref q)) kk) (kf q)
  · exact Wp.go (fun t kk => XT.acmpYes X.here hx rfl rfl (hb hby d) rfl rfl rfl (XT.aa_ne_t (fun r => q (Value.ref.inj r))) q1 q2 kk) (kt q)
theorem f_acmpV_ne (X : Stand p l e R s m args below meth c T locs cells slots) (hx : p.tables.exec = Jvm.exec) (hby : c.code = bs) {x y : Value} (hx' : x.isRef = true) (hy' : y.isRef = true) (hd : Jm bs pc (.if_acmp .ne o) o nx tg) (kt : ¬ x = y → Wp p e below s K N Q T (mkF m tg Ls st)) (kf : x = y → Wp p e below s K N Q T (mkF m nx Ls st)) : Wp p e below s K N Q T (mkF m pc Ls (y :: x :: st)) := by
  obtain ⟨d, rfl, q1, q2⟩ := hd
  by_cases q : x = y
  · exact Wp.go (fun t kk => XT.acmpNo X.here hx rfl (hb hby d) rfl hx' hy' (XT.aa_ne_f q) kk) (kf q)
  · exact Wp.go (fun t kk => XT.acmpYes X.here hx rfl rfl (hb hby d) rfl hx' hy' (XT.aa_ne_t q) q1 q2 kk) (kt q)
theorem w_lswHit (X : Stand p l e R s m args below meth c T locs cells slots) (hx : p.tables.exec = Jvm.exec) (hby : c.code = bs) {x : Int32} {df : Int} {ps : Array (Int × Int)} {len : Nat} {a off : Int} (hd : In bs pc (.lookupswitch df ps) len nx) (hs : (ps.toList.zip (ps.toList.drop 1)).all (fun (a, next) => a.1 < next.1) = true) (hf : ps.find? (·.1 == x.toInt) = some (a, off)) (ho : 0 ≤ (pc : Int) + off) (ht : ((pc : Int) + off).toNat = tg) (k : Wp p e below s K N Q T (mkF m tg Ls st)) : Wp p e below s K N Q T (mkF m pc Ls (.int x :: st)) := by
  obtain ⟨d, -⟩ := hd; subst ht; exact Wp.go (fun t kk => X.lookupswitchHit hx (g := mkF m pc Ls (.int x :: st)) rfl rfl (hb hby d) hs hf ho t kk) k
theorem w_lswMiss (X : Stand p l e R s m args below meth c T locs cells slots) (hx : p.tables.exec = Jvm.exec) (hby : c.code = bs) {x : Int32} {df : Int} {ps : Array (Int × Int)} {len : Nat} (hd : In bs pc (.lookupswitch df ps) len nx) (hs : (ps.toList.zip (ps.toList.drop 1)).all (fun (a, next) => a.1 < next.1) = true) (hf : ps.find? (·.1 == x.toInt) = none) (ho : 0 ≤ (pc : Int) + df) (ht : ((pc : Int) + df).toNat = tg) (k : Wp p e below s K N Q T (mkF m tg Ls st)) : Wp p e below s K N Q T (mkF m pc Ls (.int x :: st)) := by
  obtain ⟨d, -⟩ := hd; subst ht; exact Wp.go (fun t kk => X.lookupswitchMiss hx (g := mkF m pc Ls (.int x :: st)) rfl rfl (hb hby d) hs hf ho t kk) k
theorem w_tswIn (X : Stand p l e R s m args below meth c T locs cells slots) (hx : p.tables.exec = Jvm.exec) (hby : c.code = bs) {x : Int32} {df lo hi : Int} {os : Array Int} {len : Nat} {off : Int} (hd : In bs pc (.tableswitch df lo hi os) len nx) (hin : ¬ (x.toInt < lo ∨ x.toInt > hi)) (hoff : os[(x.toInt - lo).toNat]? = some off) (ho : 0 ≤ (pc : Int) + off) (ht : ((pc : Int) + off).toNat = tg) (k : Wp p e below s K N Q T (mkF m tg Ls st)) : Wp p e below s K N Q T (mkF m pc Ls (.int x :: st)) := by
  obtain ⟨d, -⟩ := hd; exact Wp.go (fun t kk => XS.tswIn X.here hx rfl rfl (hb hby d) rfl hin hoff ho ht kk) k
theorem w_tswOut (X : Stand p l e R s m args below meth c T locs cells slots) (hx : p.tables.exec = Jvm.exec) (hby : c.code = bs) {x : Int32} {df lo hi : Int} {os : Array Int} {len : Nat} (hd : In bs pc (.tableswitch df lo hi os) len nx) (hout : x.toInt < lo ∨ x.toInt > hi) (ho : 0 ≤ (pc : Int) + df) (ht : ((pc : Int) + df).toNat = tg) (k : Wp p e below s K N Q T (mkF m tg Ls st)) : Wp p e below s K N Q T (mkF m pc Ls (.int x :: st)) := by
  obtain ⟨d, -⟩ := hd; exact Wp.go (fun t kk => XS.tswOut X.here hx rfl rfl (hb hby d) rfl hout ho ht kk) k
theorem own_ne32 {x z : Int32} {i : Int} (h : ¬ x = z) (hz : z.toInt = i) : i ≠ x.toInt := fun q => h (Int32.toInt_inj.mp (by rw [hz, q]))
theorem w_ifnonnullRef (X : Stand p l e R s m args below meth c T locs cells slots) (hx : p.tables.exec = Jvm.exec) (hby : c.code = bs) {a : Addr} (hd : Jm bs pc (.ifnonnull o) o nx tg) (k : Wp p e below s K N Q T (mkF m tg Ls st)) : Wp p e below s K N Q T (mkF m pc Ls (.ref a :: st)) := by
  obtain ⟨d, -, q1, q2⟩ := hd; exact Wp.go (fun t kk => XS.ifnonnullYes X.here hx rfl rfl (hb hby d) rfl q1 q2 kk) k
theorem w_ifnonnullNull (X : Stand p l e R s m args below meth c T locs cells slots) (hx : p.tables.exec = Jvm.exec) (hby : c.code = bs) (hd : Jm bs pc (.ifnonnull o) o nx tg) (k : Wp p e below s K N Q T (mkF m nx Ls st)) : Wp p e below s K N Q T (mkF m pc Ls (.null :: st)) := by
  obtain ⟨d, rfl, q1, q2⟩ := hd; exact Wp.go (fun t kk => XS.ifnonnullNo X.here hx rfl (hb hby d) rfl kk) k
theorem w_ifnullRef (X : Stand p l e R s m args below meth c T locs cells slots) (hx : p.tables.exec = Jvm.exec) (hby : c.code = bs) {a : Addr} (hd : Jm bs pc (.ifnull o) o nx tg) (k : Wp p e below s K N Q T (mkF m nx Ls st)) : Wp p e below s K N Q T (mkF m pc Ls (.ref a :: st)) := by
  obtain ⟨d, rfl, q1, q2⟩ := hd; exact Wp.go (fun t kk => XS.ifnullNo X.here hx rfl (hb hby d) rfl kk) k
theorem w_ifnullNull (X : Stand p l e R s m args below meth c T locs cells slots) (hx : p.tables.exec = Jvm.exec) (hby : c.code = bs) (hd : Jm bs pc (.ifnull o) o nx tg) (k : Wp p e below s K N Q T (mkF m tg Ls st)) : Wp p e below s K N Q T (mkF m pc Ls (.null :: st)) := by
  obtain ⟨d, -, q1, q2⟩ := hd; exact Wp.go (fun t kk => XS.ifnullYes X.here hx rfl rfl (hb hby d) rfl q1 q2 kk) k
theorem w_ldcI (X : Stand p l e R s m args below meth c T locs cells slots) (hx : p.tables.exec = Jvm.exec) (hby : c.code = bs) (hZ : Z.Warmed39 s.vm) {own : String} (hown : s.vm.findClass own = some m.cls) {index : Nat} {v : Int32} (w : (Cond.constant own index v).before a0 Z = true) (hd : In bs pc (.ldc index) 2 nx) (k : Wp p e below s K N Q T (mkF m nx Ls (.int v :: st))) : Wp p e below s K N Q T (mkF m pc Ls st) := by
  obtain ⟨d, rfl⟩ := hd; exact Wp.go (fun t kk => X.ldcInt hx hown (mvT hZ w) (g := mkF m pc Ls st) rfl (hb hby d) t kk) k
theorem w_ldcwI (X : Stand p l e R s m args below meth c T locs cells slots) (hx : p.tables.exec = Jvm.exec) (hby : c.code = bs) (hZ : Z.Warmed39 s.vm) {own : String} (hown : s.vm.findClass own = some m.cls) {index : Nat} {v : Int32} (w : (Cond.constant own index v).before a0 Z = true) (hd : In bs pc (.ldc_w index) 3 nx) (k : Wp p e below s K N Q T (mkF m nx Ls (.int v :: st))) : Wp p e below s K N Q T (mkF m pc Ls st) := by
  obtain ⟨d, rfl⟩ := hd; exact Wp.go (fun t kk => X.ldcWI hx hown (mvT hZ w) (g := mkF m pc Ls st) rfl (hb hby d) kk) k
theorem w_ldc2J (X : Stand p l e R s m args below meth c T locs cells slots) (hx : p.tables.exec = Jvm.exec) (hby : c.code = bs) (hZ : Z.Warmed39 s.vm) {own : String} (hown : s.vm.findClass own = some m.cls) {index : Nat} {v : Int64} (w : (Cond.constantLong own index v).before a0 Z = true) (hd : In bs pc (.ldc2_w index) 3 nx) (k : Wp p e below s K N Q T (mkF m nx Ls (.long v :: st))) : Wp p e below s K N Q T (mkF m pc Ls st) := by
  obtain ⟨d, rfl⟩ := hd; exact Wp.go (fun t kk => X.ldc2Long hx hown (mvT hZ w) (g := mkF m pc Ls st) rfl (hb hby d) t kk) k
theorem w_getS (X : Stand p l e R s m args below meth c T locs cells slots) (hx : p.tables.exec = Jvm.exec) (hby : c.code = bs) (hZ : Z.Warmed39 s.vm) {own : String} (hown : s.vm.findClass own = some m.cls) {R0 C n d host : String} {index : Nat} (w : (Cond.fieldLink own index R0 n d).before a0 Z = true ∨ (Cond.fieldLinkNest own index R0 n d host).before a0 Z = true) (via : Via Z R0 C n d) (eT : T.heap = h) {v : Value} (F : Sta Z h C n d v) (hd : In bs pc (.getstatic index) 3 nx) (k : ∀ T', Stand p l e R s m args below meth c T' locs cells slots → T'.heap = h → Wp p e below s K N Q T' (mkF m nx Ls (v :: st))) : Wp p e below s K N Q T (mkF m pc Ls st) := by
  obtain ⟨d, rfl⟩ := hd; obtain ⟨T', X', e', st'⟩ := getS2 X hx hZ hown w via eT F (g := mkF m pc Ls st) rfl (hb hby d); exact Wp.go st' (k T' X' e')
theorem w_getF (X : Stand p l e R s m args below meth c T locs cells slots) (hx : p.tables.exec = Jvm.exec) (hby : c.code = bs) (hZ : Z.Warmed39 s.vm) {own : String} (hown : s.vm.findClass own = some m.cls) {R0 C n d host : String} {index : Nat} (w : (Cond.fieldLink own index R0 n d).before a0 Z = true ∨ (Cond.fieldLinkNest own index R0 n d host).before a0 Z = true) (via : Via Z R0 C n d) (eT : T.heap = h) {a : Addr} {v : Value} (F : Fld Z h a C n d v) (hd : In bs pc (.getfield index) 3 nx) (k : ∀ T', Stand p l e R s m args below meth c T' locs cells slots → T'.heap = h → Wp p e below s K N Q T' (mkF m nx Ls (v :: st))) : Wp p e below s K N Q T (mkF m pc Ls (.ref a :: st)) := by
  obtain ⟨d, rfl⟩ := hd; obtain ⟨T', X', e', st'⟩ := getF X hx hZ hown w via eT F (g := mkF m pc Ls (.ref a :: st)) rfl rfl (hb hby d); exact Wp.go st' (k T' X' e')
theorem w_putF (X : Stand p l e R s m args below meth c T locs cells slots) (hx : p.tables.exec = Jvm.exec) (hby : c.code = bs) (hZ : Z.Warmed39 s.vm) {own : String} (hown : s.vm.findClass own = some m.cls) {R0 C n d host D : String} {index kk : Nat} {ty : FieldType} (w : (Cond.fieldLink own index R0 n d).before a0 Z = true ∨ (Cond.fieldLinkNest own index R0 n d host).before a0 Z = true) (via : Via Z R0 C n d) (eT : T.heap = h) {a : Addr} {v old : Value} (F : Fld Z h a C n d old) (E : Exa Z h a D) (Lw : (Cond.lays D C n d).before a0 Z = true ∨ ((Cond.laysFinal D C n d).before a0 Z = true ∧ own = C ∧ meth.name = "<init>")) (wi : (Cond.instantiable D kk).before a0 Z = true) (hty : parseFieldDescriptor d = some ty) (hn : narrow ty v = v) (hf : fits ty v = true) (hd : In bs pc (.putfield index) 3 nx) (k : ∀ T' h', Stand p l e R s m args below meth c T' (locs ++ [⟨a, Jvm.RoadKit.slotOf Z C n d⟩]) cells slots → T'.heap = h' → Wr h h' a (Jvm.RoadKit.slotOf Z C n d) v → Wp p e below s K N Q T' (mkF m nx Ls st)) : Wp p e below s K N Q T (mkF m pc Ls (v :: .ref a :: st)) := by
  obtain ⟨d, rfl⟩ := hd; obtain ⟨T', h', X', e', W', st'⟩ := putF X hx hZ hown w via eT F E Lw wi hty hn hf (g := mkF m pc Ls (v :: .ref a :: st)) rfl rfl (hb hby d); exact Wp.go st' (k T' h' X' e' W')
theorem w_putFN (X : Stand p l e R s m args below meth c T locs cells slots) (hx : p.tables.exec = Jvm.exec) (hby : c.code = bs) (hZ : Z.Warmed39 s.vm) {own : String} (hown : s.vm.findClass own = some m.cls) {R0 C n d D : String} {index kk : Nat} {ty : FieldType} (w : (Cond.fieldLink own index R0 n d).before a0 Z = true) (via : Via Z R0 C n d) (eT : T.heap = h) {a : Addr} {v v' old : Value} (F : Fld Z h a C n d old) (E : Exa Z h a D) (Lw : (Cond.lays D C n d).before a0 Z = true ∨ ((Cond.laysFinal D C n d).before a0 Z = true ∧ own = C ∧ meth.name = "<init>")) (wi : (Cond.instantiable D kk).before a0 Z = true) (hty : parseFieldDescriptor d = some ty) (hn : narrow ty v = v') (hf : fits ty v' = true) (hd : In bs pc (.putfield index) 3 nx) (k : ∀ T' h', Stand p l e R s m args below meth c T' (locs ++ [⟨a, Jvm.RoadKit.slotOf Z C n d⟩]) cells slots → T'.heap = h' → Wr h h' a (Jvm.RoadKit.slotOf Z C n d) v' → Wp p e below s K N Q T' (mkF m nx Ls st)) : Wp p e below s K N Q T (mkF m pc Ls (v :: .ref a :: st)) := by
  obtain ⟨d, rfl⟩ := hd; obtain ⟨T', h', X', e', W', st'⟩ := putFN X hx hZ hown w via eT F E Lw wi hty hn hf (g := mkF m pc Ls (v :: .ref a :: st)) rfl rfl (hb hby d); exact Wp.go st' (k T' h' X' e' W')
theorem w_newO (X : Stand p l e R s m args below meth c T locs cells slots) (hx : p.tables.exec = Jvm.exec) (hby : c.code = bs) (hZ : Z.Warmed39 s.vm) {own : String} (hown : s.vm.findClass own = some m.cls) {C : String} {index n : Nat} (w : (Cond.classLink own index C).before a0 Z = true) (wi : (Cond.instantiable C n).before a0 Z = true) (wz : (Cond.initialized C).before a0 Z = true) (eT : T.heap = h) (hd : In bs pc (.new index) 3 nx) (hc : cells + 1 ≤ R.cells) (hl : slots + n ≤ R.slots) (k : ∀ T' h' a, a = h.size → Stand p l e R s m args below meth c T' locs (cells + 1) (slots + n) → T'.heap = h' → Ext h h' → Exa Z h' a C → (∀ {D nm d : String} {ty : FieldType}, Laid Z a0 C D nm d → parseFieldDescriptor d = some ty → Fld Z h' a D nm d (defaultValue ty)) → Wp p e below s K N Q T' (mkF m nx Ls (.ref a :: st))) : Wp p e below s K N Q T (mkF m pc Ls st) := by
  obtain ⟨d, rfl⟩ := hd; obtain ⟨T', h', X', e', E', A', D', -, st'⟩ := newO X hx hZ hown w wi wz eT (g := mkF m pc Ls st) rfl (hb hby d) hc hl; exact Wp.go st' (k T' h' _ rfl X' e' E' A' D')
theorem w_newP (X : Stand p l e R s m args below meth c T locs cells slots) (hx : p.tables.exec = Jvm.exec) (hby : c.code = bs) (hZ : Z.Warmed39 s.vm) {aty : ArrayType} (w : (Cond.arrayClass (newarray.typeOf aty)).before a0 Z = true) (eT : T.heap = h) {n : Int32} (hd : In bs pc (.newarray aty) 2 nx) (hn : ¬ n < 0) (cap : Nat) (hcap : n.toNatClampNeg ≤ cap) (hbig : cap * 8 ≤ 536870912) (hc : cells + 1 ≤ R.cells) (hl : slots + cap ≤ R.slots) (k : ∀ T' h' a kA, a = h.size → Stand p l e R s m args below meth c T' locs (cells + 1) (slots + cap) → T'.heap = h' → Ext h h' → Arr Z h' a (newA kA (newarray.typeOf aty) n) (newarray.typeOf aty) → Wp p e below s K N Q T' (mkF m nx Ls (.ref a :: st))) : Wp p e below s K N Q T (mkF m pc Ls (.int n :: st)) := by
  obtain ⟨d, rfl⟩ := hd; obtain ⟨T', h', kA, X', e', E', A', st'⟩ := newP X hx hZ w eT (g := mkF m pc Ls (.int n :: st)) rfl (hb hby d) rfl hn hcap hbig hc hl; exact Wp.go st' (k T' h' _ kA rfl X' e' E' A')
theorem w_newR (X : Stand p l e R s m args below meth c T locs cells slots) (hx : p.tables.exec = Jvm.exec) (hby : c.code = bs) (hZ : Z.Warmed39 s.vm) {own : String} (hown : s.vm.findClass own = some m.cls) {C : String} {index : Nat} (w1 : (Cond.classLink own index C).before a0 Z = true) (w2 : (Cond.arrayOver (.object C)).before a0 Z = true) (eT : T.heap = h) {n : Int32} (hd : In bs pc (.anewarray index) 3 nx) (hn : ¬ n < 0) (cap : Nat) (hcap : n.toNatClampNeg ≤ cap) (hbig : cap * 8 ≤ 536870912) (hc : cells + 1 ≤ R.cells) (hl : slots + cap ≤ R.slots) (k : ∀ T' h' a kA, a = h.size → Stand p l e R s m args below meth c T' locs (cells + 1) (slots + cap) → T'.heap = h' → Ext h h' → Arr Z h' a (newA kA (.object C) n) (.object C) → Ovr Z kA C → Wp p e below s K N Q T' (mkF m nx Ls (.ref a :: st))) : Wp p e below s K N Q T (mkF m pc Ls (.int n :: st)) := by
  obtain ⟨d, rfl⟩ := hd; obtain ⟨T', h', kA, X', e', E', A', O', st'⟩ := newR X hx hZ hown w1 w2 eT (g := mkF m pc Ls (.int n :: st)) rfl (hb hby d) rfl hn hcap hbig hc hl; exact Wp.go st' (k T' h' _ kA rfl X' e' E' A' O')
theorem w_stI (X : Stand p l e R s m args below meth c T locs cells slots) (hx : p.tables.exec = Jvm.exec) (hby : c.code = bs) (hZ : Z.Warmed39 s.vm) (eT : T.heap = h) {a : Addr} {cl : Cell} (A : Arr Z h a cl .int) {j : Int32} {x : Int32} (hj : ¬ (j < 0 ∨ cl.slots.size ≤ j.toNatClampNeg)) (hd : In bs pc .iastore 1 nx) (k : ∀ T' h', Stand p l e R s m args below meth c T' (locs ++ [⟨a, j.toNatClampNeg⟩]) cells slots → T'.heap = h' → Wr h h' a j.toNatClampNeg (.int x) → Wp p e below s K N Q T' (mkF m nx Ls st)) : Wp p e below s K N Q T (mkF m pc Ls (.int x :: .int j :: .ref a :: st)) := by
  obtain ⟨d, rfl⟩ := hd; obtain ⟨T', h', X', e', W', st'⟩ := stI X hx hZ eT A hj (g := mkF m pc Ls (.int x :: .int j :: .ref a :: st)) rfl rfl (hb hby d); exact Wp.go st' (k T' h' X' e' W')
theorem w_stJ (X : Stand p l e R s m args below meth c T locs cells slots) (hx : p.tables.exec = Jvm.exec) (hby : c.code = bs) (hZ : Z.Warmed39 s.vm) (eT : T.heap = h) {a : Addr} {cl : Cell} (A : Arr Z h a cl .long) {j : Int32} {x : Int64} (hj : ¬ (j < 0 ∨ cl.slots.size ≤ j.toNatClampNeg)) (hd : In bs pc .lastore 1 nx) (k : ∀ T' h', Stand p l e R s m args below meth c T' (locs ++ [⟨a, j.toNatClampNeg⟩]) cells slots → T'.heap = h' → Wr h h' a j.toNatClampNeg (.long x) → Wp p e below s K N Q T' (mkF m nx Ls st)) : Wp p e below s K N Q T (mkF m pc Ls (.long x :: .int j :: .ref a :: st)) := by
  obtain ⟨d, rfl⟩ := hd; obtain ⟨T', h', X', e', W', st'⟩ := stJ X hx hZ eT A hj (g := mkF m pc Ls (.long x :: .int j :: .ref a :: st)) rfl rfl (hb hby d); exact Wp.go st' (k T' h' X' e' W')
theorem w_stC (X : Stand p l e R s m args below meth c T locs cells slots) (hx : p.tables.exec = Jvm.exec) (hby : c.code = bs) (hZ : Z.Warmed39 s.vm) (eT : T.heap = h) {a : Addr} {cl : Cell} (A : Arr Z h a cl .char) {j : Int32} {x : Int32} (hj : ¬ (j < 0 ∨ cl.slots.size ≤ j.toNatClampNeg)) (hd : In bs pc .castore 1 nx) (k : ∀ T' h', Stand p l e R s m args below meth c T' (locs ++ [⟨a, j.toNatClampNeg⟩]) cells slots → T'.heap = h' → Wr h h' a j.toNatClampNeg (.int (nar .char x)) → Wp p e below s K N Q T' (mkF m nx Ls st)) : Wp p e below s K N Q T (mkF m pc Ls (.int x :: .int j :: .ref a :: st)) := by
  obtain ⟨d, rfl⟩ := hd; obtain ⟨T', h', X', e', W', st'⟩ := stC X hx hZ eT A hj (g := mkF m pc Ls (.int x :: .int j :: .ref a :: st)) rfl rfl (hb hby d); exact Wp.go st' (k T' h' X' e' W')
theorem w_stB (X : Stand p l e R s m args below meth c T locs cells slots) (hx : p.tables.exec = Jvm.exec) (hby : c.code = bs) (hZ : Z.Warmed39 s.vm) (eT : T.heap = h) {a : Addr} {cl : Cell} (A : Arr Z h a cl .byte) {j : Int32} {x : Int32} (hj : ¬ (j < 0 ∨ cl.slots.size ≤ j.toNatClampNeg)) (hd : In bs pc .bastore 1 nx) (k : ∀ T' h', Stand p l e R s m args below meth c T' (locs ++ [⟨a, j.toNatClampNeg⟩]) cells slots → T'.heap = h' → Wr h h' a j.toNatClampNeg (.int (nar .byte x)) → Wp p e below s K N Q T' (mkF m nx Ls st)) : Wp p e below s K N Q T (mkF m pc Ls (.int x :: .int j :: .ref a :: st)) := by
  obtain ⟨d, rfl⟩ := hd; obtain ⟨T', h', X', e', W', st'⟩ := stB X hx hZ eT A hj (g := mkF m pc Ls (.int x :: .int j :: .ref a :: st)) rfl rfl (hb hby d); exact Wp.go st' (k T' h' X' e' W')
theorem w_stZ (X : Stand p l e R s m args below meth c T locs cells slots) (hx : p.tables.exec = Jvm.exec) (hby : c.code = bs) (hZ : Z.Warmed39 s.vm) (eT : T.heap = h) {a : Addr} {cl : Cell} (A : Arr Z h a cl .boolean) {j : Int32} {x : Int32} (hj : ¬ (j < 0 ∨ cl.slots.size ≤ j.toNatClampNeg)) (hd : In bs pc .bastore 1 nx) (k : ∀ T' h', Stand p l e R s m args below meth c T' (locs ++ [⟨a, j.toNatClampNeg⟩]) cells slots → T'.heap = h' → Wr h h' a j.toNatClampNeg (.int (nar .boolean x)) → Wp p e below s K N Q T' (mkF m nx Ls st)) : Wp p e below s K N Q T (mkF m pc Ls (.int x :: .int j :: .ref a :: st)) := by
  obtain ⟨d, rfl⟩ := hd; obtain ⟨T', h', X', e', W', st'⟩ := stZ X hx hZ eT A hj (g := mkF m pc Ls (.int x :: .int j :: .ref a :: st)) rfl rfl (hb hby d); exact Wp.go st' (k T' h' X' e' W')
theorem w_stR (X : Stand p l e R s m args below meth c T locs cells slots) (hx : p.tables.exec = Jvm.exec) (hby : c.code = bs) (hZ : Z.Warmed39 s.vm) (eT : T.heap = h) {a : Addr} {cl : Cell} {ty : FieldType} (A : Arr Z h a cl ty) {j : Int32} {v : Value} (hj : ¬ (j < 0 ∨ cl.slots.size ≤ j.toNatClampNeg)) (hty : ty.isReference = true) (F : Sto Z h a v) (hd : In bs pc .aastore 1 nx) (k : ∀ T' h', Stand p l e R s m args below meth c T' (locs ++ [⟨a, j.toNatClampNeg⟩]) cells slots → T'.heap = h' → Wr h h' a j.toNatClampNeg v → Wp p e below s K N Q T' (mkF m nx Ls st)) : Wp p e below s K N Q T (mkF m pc Ls (v :: .int j :: .ref a :: st)) := by
  obtain ⟨d, rfl⟩ := hd; obtain ⟨T', h', X', e', W', st'⟩ := stR X hx hZ eT A hj hty F (g := mkF m pc Ls (v :: .int j :: .ref a :: st)) rfl rfl (hb hby d); exact Wp.go st' (k T' h' X' e' W')
theorem w_iaload (X : Stand p l e R s m args below meth c T locs cells slots) (hx : p.tables.exec = Jvm.exec) (hby : c.code = bs) (hZ : Z.Warmed39 s.vm) (eT : T.heap = h) {a : Addr} {cl : Cell} (A : Arr Z h a cl .int) {j : Int32} {v : Value} (hj : ¬ (j < 0 ∨ cl.slots.size ≤ j.toNatClampNeg)) (hv : cl.slots[j.toNatClampNeg]? = some v) (hd : In bs pc .iaload 1 nx) (k : Wp p e below s K N Q T (mkF m nx Ls (v :: st))) : Wp p e below s K N Q T (mkF m pc Ls (.int j :: .ref a :: st)) := by
  obtain ⟨d, rfl⟩ := hd; exact Wp.go (fun t kk => X.iaload hx (by rw [eT]; exact A.1) (State.isArrayOf_alike hZ.alike A.2.1) A.2.2 hj hv (g := mkF m pc Ls (.int j :: .ref a :: st)) rfl rfl (hb hby d) t kk) k
theorem w_laload (X : Stand p l e R s m args below meth c T locs cells slots) (hx : p.tables.exec = Jvm.exec) (hby : c.code = bs) (hZ : Z.Warmed39 s.vm) (eT : T.heap = h) {a : Addr} {cl : Cell} (A : Arr Z h a cl .long) {j : Int32} {v : Value} (hj : ¬ (j < 0 ∨ cl.slots.size ≤ j.toNatClampNeg)) (hv : cl.slots[j.toNatClampNeg]? = some v) (hd : In bs pc .laload 1 nx) (k : Wp p e below s K N Q T (mkF m nx Ls (v :: st))) : Wp p e below s K N Q T (mkF m pc Ls (.int j :: .ref a :: st)) := by
  obtain ⟨d, rfl⟩ := hd; exact Wp.go (fun t kk => X.laload hx (by rw [eT]; exact A.1) (State.isArrayOf_alike hZ.alike A.2.1) A.2.2 hj hv (g := mkF m pc Ls (.int j :: .ref a :: st)) rfl rfl (hb hby d) t kk) k
theorem w_caload (X : Stand p l e R s m args below meth c T locs cells slots) (hx : p.tables.exec = Jvm.exec) (hby : c.code = bs) (hZ : Z.Warmed39 s.vm) (eT : T.heap = h) {a : Addr} {cl : Cell} (A : Arr Z h a cl .char) {j : Int32} {v : Value} (hj : ¬ (j < 0 ∨ cl.slots.size ≤ j.toNatClampNeg)) (hv : cl.slots[j.toNatClampNeg]? = some v) (hd : In bs pc .caload 1 nx) (k : Wp p e below s K N Q T (mkF m nx Ls (v :: st))) : Wp p e below s K N Q T (mkF m pc Ls (.int j :: .ref a :: st)) := by
  obtain ⟨d, rfl⟩ := hd; exact Wp.go (fun t kk => X.caload hx (by rw [eT]; exact A.1) (State.isArrayOf_alike hZ.alike A.2.1) A.2.2 hj hv (g := mkF m pc Ls (.int j :: .ref a :: st)) rfl rfl (hb hby d) t kk) k
theorem w_baload (X : Stand p l e R s m args below meth c T locs cells slots) (hx : p.tables.exec = Jvm.exec) (hby : c.code = bs) (hZ : Z.Warmed39 s.vm) (eT : T.heap = h) {a : Addr} {cl : Cell} (A : Arr Z h a cl .byte) {j : Int32} {v : Value} (hj : ¬ (j < 0 ∨ cl.slots.size ≤ j.toNatClampNeg)) (hv : cl.slots[j.toNatClampNeg]? = some v) (hd : In bs pc .baload 1 nx) (k : Wp p e below s K N Q T (mkF m nx Ls (v :: st))) : Wp p e below s K N Q T (mkF m pc Ls (.int j :: .ref a :: st)) := by
  obtain ⟨d, rfl⟩ := hd; exact Wp.go (fun t kk => X.baloadBytes hx (by rw [eT]; exact A.1) (State.isArrayOf_alike hZ.alike A.2.1) A.2.2 hj hv (g := mkF m pc Ls (.int j :: .ref a :: st)) rfl rfl (hb hby d) t kk) k
theorem w_aaload (X : Stand p l e R s m args below meth c T locs cells slots) (hx : p.tables.exec = Jvm.exec) (hby : c.code = bs) (hZ : Z.Warmed39 s.vm) (eT : T.heap = h) {a : Addr} {cl : Cell} {ty : FieldType} (A : Arr Z h a cl ty) (hty : ty.isReference = true) {j : Int32} {v : Value} (hj : ¬ (j < 0 ∨ cl.slots.size ≤ j.toNatClampNeg)) (hv : cl.slots[j.toNatClampNeg]? = some v) (hd : In bs pc .aaload 1 nx) (k : Wp p e below s K N Q T (mkF m nx Ls (v :: st))) : Wp p e below s K N Q T (mkF m pc Ls (.int j :: .ref a :: st)) := by
  obtain ⟨d, rfl⟩ := hd; exact Wp.go (fun t kk => X.aaload hx (by rw [eT]; exact A.1) (State.isArrayOf_alike hZ.alike A.2.1) hty A.2.2 hj hv (g := mkF m pc Ls (.int j :: .ref a :: st)) rfl rfl (hb hby d) t kk) k
theorem w_arraylength (X : Stand p l e R s m args below meth c T locs cells slots) (hx : p.tables.exec = Jvm.exec) (hby : c.code = bs) (hZ : Z.Warmed39 s.vm) (eT : T.heap = h) {a : Addr} {cl : Cell} {ty : FieldType} (A : Arr Z h a cl ty) {z : Int32} (hz : cl.slots.size.toInt32 = z) (hd : In bs pc .arraylength 1 nx) (k : Wp p e below s K N Q T (mkF m nx Ls (.int z :: st))) : Wp p e below s K N Q T (mkF m pc Ls (.ref a :: st)) := by
  obtain ⟨d, rfl⟩ := hd; subst hz; exact Wp.go (fun t kk => X.arraylength hx (by rw [eT]; exact A.1) (State.isArrayOf_alike hZ.alike A.2.1) (g := mkF m pc Ls (.ref a :: st)) rfl rfl (hb hby d) t kk) k
theorem w_initO (X : Stand p l e R s m args below meth c T locs cells slots) (hx : p.tables.exec = Jvm.exec) (hby : c.code = bs) (hZ : Z.Warmed39 s.vm) {own : String} (hown : s.vm.findClass own = some m.cls) (hml : Ls.size = c.maxLocals) {idx : Nat} (w1 : (Cond.methodLink own idx Lib.objectInit).before a0 Z = true) (w2 : (Cond.instanceMethod Lib.objectInit).before a0 Z = true) (w3 : (Cond.code Lib.objectInit ⟨#[0xb1]⟩ 1 none).before a0 Z = true) (eT : T.heap = h) {a : Addr} (hd : In bs pc (.invokespecial idx) 3 nx) (hf : 1 ≤ R.frames) {Wd : Nat} (hW : (st.map fun v => v.category).sum = Wd) (hl : Wd + 12 ≤ R.locals) (k : ∀ T', Stand p l e R s m args below meth c T' locs cells slots → T'.heap = h → Wp p e below s K N Q T' (mkF m nx Ls st)) : Wp p e below s K N Q T (mkF m pc Ls (.ref a :: st)) := by
  obtain ⟨d, rfl⟩ := hd; obtain ⟨T', X', e', st'⟩ := initO X hx hZ hown w1 w2 w3 eT (g := mkF m pc Ls (.ref a :: st)) rfl hml rfl (hb hby d) hf (W := Wd) (by show 2 * 0 + _ ≤ _; omega) hl; exact Wp.go st' (k T' X' e')
/-- a body's contract: called on as' at the heap h it returns as Q says, within the room rm -/
def Con (l : Launch) (Z : State) (y : MethodName) (bs : ByteArray) (ml : Nat) (rt : Option FieldType) (rm : Room) (as' : Array Value) (h : Heap) (Q : Option Value → Heap → List Loc → Prop) : Prop :=
  ∀ ws : List Jvm.Cond, MetFree l y (head1 (Jvm.Cond.code y bs ml rt :: ws) rm) (fun a U => a = as' ∧ Z.Warmed39 U.vm ∧ U.heap = h) (fun _ _ _ _ _ => True) (fun _ U o U' => ∃ v L, o = .returned v ∧ Q v U'.heap L ∧ FrameEnd U o U' L rm.cells rm.slots)
theorem w_body {y : MethodName} {ml : Nat} {rt : Option FieldType} {rm : Room} {as' : Array Value} (hy : plainFor y = true) (hf : ∀ m, entryFrame m as' ml = mkF m 0 Ls [])
    (k : ∀ (p : Program) (e : Env) (s : State) (m : MethodId) (below : List Frame) (meth : Method) (c : Code) (T : State), Stand p l e rm s m as' below meth c T [] 0 0 → p.tables.exec = Jvm.exec → c.code = bs → c.maxLocals = ml → s.vm.findClass y.cls = some m.cls → meth.name = y.name → meth.sig.returnType = rt → meth.locks = false → Z.Warmed39 s.vm → T.heap = h → Wp p e below s rm.cells rm.slots Q T (mkF m 0 Ls [])) : Con l Z y bs ml rt rm as' h Q := by
  intro ws
  refine MetFree.of_bodySF hy hisR ?_
  intro p e s m args below meth c s₁ Bd hml0 hP hK
  obtain ⟨rfl, hZ, hh⟩ := hP
  have e0 : s₁.heap = h := by rw [← hh, Bd.state]; rfl
  rw [hf m]
  exact k p e s m below meth c s₁ (Stand.of_body Bd) Bd.exec Bd.bytes hml0 (findClass_of_methodNamed Bd.named) (name_of_methodNamed Bd.named Bd.method).1 Bd.returns (BodyLoose.notSynchronized Bd) hZ e0
/-- what a call leaves -/
def Called (p : Program) (l : Launch) (e : Env) (R : Room) (s : State) (m : MethodId) (args : Array Value) (below : List Frame) (meth : Method) (c : Code) (T : State) (locs : List Loc) (cells slots : Nat) (rm : Room) (Qc : Option Value → Heap → List Loc → Prop) (pc nx : Nat) (Ls : Array Slot) (stk rest : List Value) : Prop :=
  ∃ v T' L, Stand p l e R s m args below meth c T' (locs ++ L) (cells + rm.cells) (slots + rm.slots) ∧ Qc v T'.heap L ∧ Steps p.tables e below (T.setTop (mkF m pc Ls stk)) (T'.setTop (mkF m nx Ls (v.toList ++ rest)))
theorem call_S (X : Stand p l e R s m args below meth c T locs cells slots) (hx : p.tables.exec = Jvm.exec) (hby : c.code = bs) (hZ : Z.Warmed39 s.vm) {own : String} (hown : s.vm.findClass own = some m.cls) {y : MethodName} {ml : Nat} {rt : Option FieldType} {rm : Room} {as' : Array Value} {Qc : Option Value → Heap → List Loc → Prop} {index : Nat} {argsL rest : List Value} {Wd : Nat} {bs' : ByteArray} (w1 : (Cond.methodLink own index y).before a0 Z = true) (w2 : (Cond.static y).before a0 Z = true) (wz : (Cond.initialized y.cls).before a0 Z = true) (wc : (Cond.code y bs' ml rt).before a0 Z = true) (hy : y.cls ≠ "java/lang/invoke/MethodHandle" ∧ y.cls ≠ "java/lang/invoke/VarHandle") (con : Con l Z y bs' ml rt rm as' h Qc) (ha : argsL.toArray = as') (hd : In bs pc (.invokestatic index) 3 nx) (hsz : Ls.size = c.maxLocals) (hlen : ∀ sig, parseMethodDescriptor y.desc = some sig → argsL.length = sig.parameters.length) (hW : (rest.map fun v => v.category).sum = Wd) (hfr : rm.frames + 1 ≤ R.frames) (hlo : Wd + (ml + 11) + rm.locals ≤ R.locals) (hce : cells + rm.cells ≤ R.cells) (hso : slots + rm.slots ≤ R.slots) (eT : T.heap = h) : Called p l e R s m args below meth c T locs cells slots rm Qc pc nx Ls (argsL.reverse ++ rest) rest := by
  obtain ⟨d, rfl⟩ := hd
  obtain ⟨v, vm, ⟨T', L', k', n'⟩, -, X', ⟨L, q, l', y', z'⟩, st'⟩ := Jvm.LawKit.callS X hx (y := y) hown (mvT hZ w1) (mvT hZ w2) (mvT hZ wz) (mvT hZ wc) hy (backOf (W := Wd) (con []) hZ wc wz hfr hlo) (g := mkF m pc Ls (argsL.reverse ++ rest)) rfl hsz (argsL := argsL) (rest := rest) hlen rfl (by show 2 * 0 + _ ≤ _; omega) (hb hby d) (fun _ _ => ⟨ha, eT, hce, hso⟩)
  dsimp only [Pt.U, Pt.locs, Pt.cells, Pt.slots] at X' l' y' z' st' q
  subst l' y' z'
  exact ⟨v, T', L, X', q, st' _ (Steps.refl _)⟩
theorem call_N (X : Stand p l e R s m args below meth c T locs cells slots) (hx : p.tables.exec = Jvm.exec) (hby : c.code = bs) (hZ : Z.Warmed39 s.vm) {own : String} (hown : s.vm.findClass own = some m.cls) {y : MethodName} {ml : Nat} {rm : Room} {as' : Array Value} {Qc : Option Value → Heap → List Loc → Prop} {index : Nat} {argsL rest : List Value} {Wd : Nat} {bs' : ByteArray} {a : Addr} (hn : y.name = "<init>") (w1 : (Cond.methodLink own index y).before a0 Z = true) (w2 : (Cond.instanceMethod y).before a0 Z = true) (wz : (Cond.initialized y.cls).before a0 Z = true) (wc : (Cond.code y bs' ml none).before a0 Z = true) (hy : y.cls ≠ "java/lang/invoke/MethodHandle" ∧ y.cls ≠ "java/lang/invoke/VarHandle") (con : Con l Z y bs' ml none rm as' h Qc) (ha : (.ref a :: argsL).toArray = as') (hd : In bs pc (.invokespecial index) 3 nx) (hsz : Ls.size = c.maxLocals) (hlen : ∀ sig, parseMethodDescriptor y.desc = some sig → argsL.length = sig.parameters.length) (hW : (rest.map fun v => v.category).sum = Wd) (hfr : rm.frames + 1 ≤ R.frames) (hlo : Wd + (ml + 11) + rm.locals ≤ R.locals) (hce : cells + rm.cells ≤ R.cells) (hso : slots + rm.slots ≤ R.slots) (eT : T.heap = h) : Called p l e R s m args below meth c T locs cells slots rm Qc pc nx Ls (argsL.reverse ++ .ref a :: rest) rest := by
  obtain ⟨d, rfl⟩ := hd
  obtain ⟨v, vm, ⟨T', L', k', n'⟩, -, X', ⟨L, q, l', y', z'⟩, st'⟩ := X.specialBack hx (y := y) hn hown (mvT hZ w1) (mvT hZ w2) (mvT hZ wc) hy (backOf (W := Wd) (con []) hZ wc wz hfr hlo) (g := mkF m pc Ls (argsL.reverse ++ .ref a :: rest)) rfl hsz (Steps.refl _) (a := a) (argsL := argsL) (rest := rest) hlen rfl (by show 2 * 0 + _ ≤ _; omega) (hb hby d) (fun _ _ => ⟨ha, eT, hce, hso⟩)
  dsimp only [Pt.U, Pt.locs, Pt.cells, Pt.slots] at X' l' y' z' st' q
  subst l' y' z'
  exact ⟨v, T', L, X', q, st'⟩
theorem call_V (X : Stand p l e R s m args below meth c T locs cells slots) (hx : p.tables.exec = Jvm.exec) (hby : c.code = bs) (hZ : Z.Warmed39 s.vm) {own : String} (hown : s.vm.findClass own = some m.cls) {y : MethodName} {ml : Nat} {rt : Option FieldType} {rm : Room} {as' : Array Value} {Qc : Option Value → Heap → List Loc → Prop} {index : Nat} {argsL rest : List Value} {Wd : Nat} {bs' : ByteArray} {a : Addr} {C : String} (w1 : (Cond.methodLink own index y).before a0 Z = true) (w2 : (Cond.declares y).before a0 Z = true) (w3 : (Cond.selects C y y).before a0 Z = true) (w4 : (Cond.instanceMethod y).before a0 Z = true) (wz : (Cond.initialized y.cls).before a0 Z = true) (wc : (Cond.code y bs' ml rt).before a0 Z = true) (hy : y.cls ≠ "java/lang/invoke/MethodHandle" ∧ y.cls ≠ "java/lang/invoke/VarHandle") (E : Exa Z h a C) (con : Con l Z y bs' ml rt rm as' h Qc) (ha : (.ref a :: argsL).toArray = as') (hd : In bs pc (.invokevirtual index) 3 nx) (hsz : Ls.size = c.maxLocals) (hlen : ∀ sig, parseMethodDescriptor y.desc = some sig → argsL.length = sig.parameters.length) (hW : (rest.map fun v => v.category).sum = Wd) (hfr : rm.frames + 1 ≤ R.frames) (hlo : Wd + (ml + 11) + rm.locals ≤ R.locals) (hce : cells + rm.cells ≤ R.cells) (hso : slots + rm.slots ≤ R.slots) (eT : T.heap = h) : Called p l e R s m args below meth c T locs cells slots rm Qc pc nx Ls (argsL.reverse ++ .ref a :: rest) rest := by
  obtain ⟨d, rfl⟩ := hd
  obtain ⟨cq, kq, qa, qb, qc⟩ := isOf hZ eT E
  obtain ⟨v, vm, ⟨T', L', k', n'⟩, -, X', ⟨L, q, l', y', z'⟩, st'⟩ := X.virtualBack hx (y := y) (z := y) hown (mvT hZ w1) (mvT hZ w2) (notFace_of_selects (args := #[]) (mvT hZ w3)) (mvT hZ w3) (mvT hZ w4) hy (backOf (W := Wd) (con []) hZ wc wz hfr hlo) qa qc (g := mkF m pc Ls (argsL.reverse ++ .ref a :: rest)) rfl hsz (Steps.refl _) (argsL := argsL) (rest := rest) hlen rfl (by show 2 * 0 + _ ≤ _; omega) (hb hby d) (fun _ _ => ⟨ha, eT, hce, hso⟩)
  dsimp only [Pt.U, Pt.locs, Pt.cells, Pt.slots] at X' l' y' z' st' q
  subst l' y' z'
  exact ⟨v, T', L, X', q, st'⟩
theorem call_U (X : Stand p l e R s m args below meth c T locs cells slots) (hx : p.tables.exec = Jvm.exec) (hby : c.code = bs) (hZ : Z.Warmed39 s.vm) {own : String} (hown : s.vm.findClass own = some m.cls) {y : MethodName} {ml : Nat} {rt : Option FieldType} {rm : Room} {as' : Array Value} {Qc : Option Value → Heap → List Loc → Prop} {index : Nat} {argsL rest : List Value} {Wd : Nat} {bs' : ByteArray} {x : MethodName} {a : Addr} {C owner : String} (w1 : (Cond.methodLink own index x).before a0 Z = true) (w2 : (Cond.sameMethod x.cls owner x.name x.desc).before a0 Z = true) (w5 : (Cond.declares ⟨owner, x.name, x.desc⟩).before a0 Z = true) (ho : owner ≠ "java/lang/invoke/MethodHandle" ∧ owner ≠ "java/lang/invoke/VarHandle") (w3 : (Cond.selects C x y).before a0 Z = true) (w4 : (Cond.instanceMethod y).before a0 Z = true) (wz : (Cond.initialized y.cls).before a0 Z = true) (wc : (Cond.code y bs' ml rt).before a0 Z = true) (E : Exa Z h a C) (con : Con l Z y bs' ml rt rm as' h Qc) (ha : (.ref a :: argsL).toArray = as') (hd : In bs pc (.invokevirtual index) 3 nx) (hsz : Ls.size = c.maxLocals) (hlen : ∀ sig, parseMethodDescriptor x.desc = some sig → argsL.length = sig.parameters.length) (hW : (rest.map fun v => v.category).sum = Wd) (hfr : rm.frames + 1 ≤ R.frames) (hlo : Wd + (ml + 11) + rm.locals ≤ R.locals) (hce : cells + rm.cells ≤ R.cells) (hso : slots + rm.slots ≤ R.slots) (eT : T.heap = h) : Called p l e R s m args below meth c T locs cells slots rm Qc pc nx Ls (argsL.reverse ++ .ref a :: rest) rest := by
  obtain ⟨d, rfl⟩ := hd
  obtain ⟨cq, kq, qa, qb, qc⟩ := isOf hZ eT E
  obtain ⟨v, vm, ⟨T', L', k', n'⟩, -, X', ⟨L, q, l', y', z'⟩, st'⟩ := X.virtualBackUp hx (x := x) (y := y) hown (mvT hZ w1) (mvT hZ w2) (mvT hZ w5) ho (mvT hZ w3) (mvT hZ w4) (backOf (W := Wd) (con []) hZ wc wz hfr hlo) qa qc (g := mkF m pc Ls (argsL.reverse ++ .ref a :: rest)) rfl hsz (Steps.refl _) (argsL := argsL) (rest := rest) hlen rfl (by show 2 * 0 + _ ≤ _; omega) (hb hby d) (fun _ _ => ⟨ha, eT, hce, hso⟩)
  dsimp only [Pt.U, Pt.locs, Pt.cells, Pt.slots] at X' l' y' z' st' q
  subst l' y' z'
  exact ⟨v, T', L, X', q, st'⟩
/-- behind a call -/
theorem w_called {rm : Room} {Qc : Option Value → Heap → List Loc → Prop} {stk rest : List Value} (hc : Called p l e R s m args below meth c T locs cells slots rm Qc pc nx Ls stk rest)
    (k : ∀ v T' L, Stand p l e R s m args below meth c T' (locs ++ L) (cells + rm.cells) (slots + rm.slots) → Qc v T'.heap L → Wp p e below s K N Q T' (mkF m nx Ls (v.toList ++ rest))) : Wp p e below s K N Q T (mkF m pc Ls stk) := by
  obtain ⟨v, T', L, X', q, st'⟩ := hc; exact Wp.tr st' (k v T' L X' q)
/-- behind a call that writes nothing and makes nothing -/
theorem w_calledp {rm : Room} {w : Value} {stk rest : List Value} (hc : Called p l e R s m args below meth c T locs cells slots rm (fun v h' L => v = some w ∧ h' = h ∧ L = []) pc nx Ls stk rest) (h1 : rm.cells = 0) (h2 : rm.slots = 0)
    (k : ∀ T', Stand p l e R s m args below meth c T' locs cells slots → T'.heap = h → Wp p e below s K N Q T' (mkF m nx Ls (w :: rest))) : Wp p e below s K N Q T (mkF m pc Ls stk) := by
  obtain ⟨v, T', L, X', ⟨rfl, q, rfl⟩, st'⟩ := hc
  rw [h1, h2, List.append_nil] at X'
  exact Wp.tr st' (k T' X' q)
theorem w_retI (X : Stand p l e R s m args below meth c T locs cells slots) (hx : p.tables.exec = Jvm.exec) (hby : c.code = bs) (eT : T.heap = h) (hlk : meth.locks = false) {z : Int32} (hret : meth.sig.returnType = some .int) (hd : In bs pc .ireturn 1 nx) (hK : cells ≤ K) (hN : slots ≤ N) (q : Q (some (.int z)) h locs) : Wp p e below s K N Q T (mkF m pc Ls (.int z :: st)) := by
  obtain ⟨fs, hr, hrun, hended, hW, hsame⟩ := X.leave (v := some (.int z)) (fun h => by rw [hret] at h; cases h) hlk
  subst eT
  refine ⟨_, _, ?_, hrun, hended, _, _, rfl, q, ⟨_, rfl⟩, hW, hsame.mono hK hN⟩
  exact retOut X hx hret rfl (Or.inl ⟨rfl, Or.inl rfl, z, rfl⟩) (hb hby hd.1) hr
theorem w_retN (X : Stand p l e R s m args below meth c T locs cells slots) (hx : p.tables.exec = Jvm.exec) (hby : c.code = bs) (eT : T.heap = h) (hlk : meth.locks = false) {z : Int32} {t : FieldType} (hret : meth.sig.returnType = some t) (ht : t = .boolean ∨ t = .byte ∨ t = .char ∨ t = .short) (hd : In bs pc .ireturn 1 nx) (hK : cells ≤ K) (hN : slots ≤ N) (q : Q (some (.int (nar t z))) h locs) : Wp p e below s K N Q T (mkF m pc Ls (.int z :: st)) := by
  obtain ⟨fs, hr, hrun, hended, hW, hsame⟩ := X.leave (v := some (.int (nar t z))) (fun h => by rw [hret] at h; cases h) hlk
  subst eT
  refine ⟨_, _, ?_, hrun, hended, _, _, rfl, q, ⟨_, rfl⟩, hW, hsame.mono hK hN⟩
  exact retN X hx hret ht (hb hby hd.1) hr
theorem w_retJ (X : Stand p l e R s m args below meth c T locs cells slots) (hx : p.tables.exec = Jvm.exec) (hby : c.code = bs) (eT : T.heap = h) (hlk : meth.locks = false) {z : Int64} (hret : meth.sig.returnType = some .long) (hd : In bs pc .lreturn 1 nx) (hK : cells ≤ K) (hN : slots ≤ N) (q : Q (some (.long z)) h locs) : Wp p e below s K N Q T (mkF m pc Ls (.long z :: st)) := by
  obtain ⟨fs, hr, hrun, hended, hW, hsame⟩ := X.leave (v := some (.long z)) (fun h => by rw [hret] at h; cases h) hlk
  subst eT
  refine ⟨_, _, ?_, hrun, hended, _, _, rfl, q, ⟨_, rfl⟩, hW, hsame.mono hK hN⟩
  exact retOut X hx hret rfl (Or.inr (Or.inl ⟨rfl, rfl, z, rfl⟩)) (hb hby hd.1) hr
theorem w_retA (X : Stand p l e R s m args below meth c T locs cells slots) (hx : p.tables.exec = Jvm.exec) (hby : c.code = bs) (eT : T.heap = h) (hlk : meth.locks = false) {w : Value} {t : FieldType} (hret : meth.sig.returnType = some t) (ht : t.isReference = true) (hw : w.isRef = true) (hn : narrow t w = w) (hd : In bs pc .areturn 1 nx) (hK : cells ≤ K) (hN : slots ≤ N) (q : Q (some w) h locs) : Wp p e below s K N Q T (mkF m pc Ls (w :: st)) := by
  obtain ⟨fs, hr, hrun, hended, hW, hsame⟩ := X.leave (v := some w) (fun h => by rw [hret] at h; cases h) hlk
  subst eT
  refine ⟨_, _, ?_, hrun, hended, _, _, rfl, q, ⟨_, rfl⟩, hW, hsame.mono hK hN⟩
  exact retOut X hx hret hn (Or.inr (Or.inr (Or.inr (Or.inr ⟨rfl, ht, hw⟩)))) (hb hby hd.1) hr
theorem w_retV (X : Stand p l e R s m args below meth c T locs cells slots) (hx : p.tables.exec = Jvm.exec) (hby : c.code = bs) (eT : T.heap = h) (hlk : meth.locks = false) (hret : meth.sig.returnType = none) (hd : In bs pc .return_ 1 nx) (hK : cells ≤ K) (hN : slots ≤ N) (q : Q none h locs) : Wp p e below s K N Q T (mkF m pc Ls []) := by
  obtain ⟨fs, hr, hrun, hended, hW, hsame⟩ := X.leave (v := none) (fun _ => rfl) hlk
  subst eT
  refine ⟨_, _, ?_, hrun, hended, _, _, rfl, q, ⟨_, rfl⟩, hW, hsame.mono hK hN⟩
  exact X.returnOut hx hret (hb hby hd.1) hr
theorem own_ns {Z : State} {h : Heap} {a : Addr} {K : String} (E : Exa Z h a K) : ∃ c : Cell, h[a]? = some c ∧ c.vm.isStatics = false := by
  obtain ⟨c, _, h1, -, -, h4, -⟩ := E; exact ⟨c, h1, h4⟩
theorem own_nsV {Z : State} {h : Heap} {a : Addr} {k : ClassId} {ty : FieldType} {n : Int32} {vs : List Value} {dv : Value} (E : Arv Z h a k ty n vs dv) : ∃ c : Cell, h[a]? = some c ∧ c.vm.isStatics = false := by
  obtain ⟨c, A, -⟩ := E; exact ⟨c, A.1, A.plain⟩
theorem own_sta_keep {Z : State} {h h' : Heap} {C n d : String} {v : Value} {ws : List Addr} (F : Sta Z h C n d v) (K : Keep h h' ws) (q : ∀ x ∈ ws, ∃ c : Cell, h[x]? = some c ∧ c.vm.isStatics = false) : Sta Z h' C n d v := by
  obtain ⟨cf, i, k, f, st, cell, h1, h2, h3, h4, h5, h6, h7⟩ := F
  refine ⟨cf, i, k, f, st, cell, h1, h2, h3, h4, K.2.1 _ _ h5 (fun hm => ?_), h6, h7⟩
  obtain ⟨c, e1, e2⟩ := q st hm
  cases h5.symm.trans e1
  rw [h6] at e2; cases e2
theorem own_arr_keep {Z : State} {h h' : Heap} {a : Addr} {c : Cell} {ty : FieldType} {ws : List Addr} (F : Arr Z h a c ty) (K : Keep h h' ws) (q : a ∉ ws) : Arr Z h' a c ty := ⟨K.2.1 a c F.1 q, F.2⟩
theorem own_ext_keep {h h' : Heap} (E : Ext h h') : Keep h h' [] := (Keep.refl h []).ext E
theorem own_keep_ext {h h' : Heap} (K : Keep h h' []) : Ext h h' := ⟨K.1, fun a c q => K.2.1 a c q nin0⟩
end OwnKit
theorem t_0 : (Jvm.Cond.constantLong "com/example/panoptes/panoptes/CutsSecondPinLaw" (9 : Nat) (9223372036854775743 : Int64)) ∈ tables_1 := List.mem_of_getElem? (i := 0) rfl
theorem t_1 : (Jvm.Cond.constantLong "com/example/panoptes/panoptes/CutsSecondPinLaw" (11 : Nat) (-9223372036854775800 : Int64)) ∈ tables_1 := List.mem_of_getElem? (i := 1) rfl
theorem t_2 : (Jvm.Cond.constantLong "com/example/panoptes/panoptes/CutsSecondPinLaw" (13 : Nat) (4 : Int64)) ∈ tables_1 := List.mem_of_getElem? (i := 2) rfl
theorem t_3 : (Jvm.Cond.arrayClass Jvm.ClassFile.FieldType.long) ∈ tables_1 := List.mem_of_getElem? (i := 3) rfl
theorem t_4 : (Jvm.Cond.methodLink "com/example/panoptes/panoptes/CutsSecondPinLaw" (15 : Nat) ({ cls := "com/example/panoptes/panoptes/CutsSecondPinLaw", name := "le", desc := "(JJ)I" } : Jvm.MethodName)) ∈ tables_1 := List.mem_of_getElem? (i := 4) rfl
theorem t_5 : (Jvm.Cond.static ({ cls := "com/example/panoptes/panoptes/CutsSecondPinLaw", name := "le", desc := "(JJ)I" } : Jvm.MethodName)) ∈ tables_1 := List.mem_of_getElem? (i := 5) rfl
theorem t_6 : (Jvm.Cond.initialized "com/example/panoptes/panoptes/CutsSecondPinLaw") ∈ tables_1 := List.mem_of_getElem? (i := 6) rfl
theorem t_7 : (Jvm.Cond.code ({ cls := "com/example/panoptes/panoptes/CutsSecondPinLaw", name := "le", desc := "(JJ)I" } : Jvm.MethodName) method_2_code (4 : Nat) (Option.some Jvm.ClassFile.FieldType.int)) ∈ tables_1 := List.mem_of_getElem? (i := 7) rfl
theorem t_8 : (Jvm.Cond.methodLink "com/example/panoptes/panoptes/CutsSecondPinLaw" (21 : Nat) ({ cls := "com/example/panoptes/panoptes/CutsSecondPinLaw", name := "lt", desc := "(JJ)I" } : Jvm.MethodName)) ∈ tables_1 := List.mem_of_getElem? (i := 8) rfl
theorem t_9 : (Jvm.Cond.static ({ cls := "com/example/panoptes/panoptes/CutsSecondPinLaw", name := "lt", desc := "(JJ)I" } : Jvm.MethodName)) ∈ tables_1 := List.mem_of_getElem? (i := 9) rfl
theorem t_10 : (Jvm.Cond.code ({ cls := "com/example/panoptes/panoptes/CutsSecondPinLaw", name := "lt", desc := "(JJ)I" } : Jvm.MethodName) method_3_code (4 : Nat) (Option.some Jvm.ClassFile.FieldType.int)) ∈ tables_1 := List.mem_of_getElem? (i := 10) rfl
theorem t_11 : (Jvm.Cond.classLink "com/example/panoptes/panoptes/CutsSecondPinLaw" (24 : Nat) "com/example/panoptes/panoptes/Cuts") ∈ tables_1 := List.mem_of_getElem? (i := 11) rfl
theorem t_12 : (Jvm.Cond.instantiable "com/example/panoptes/panoptes/Cuts" (5 : Nat)) ∈ tables_1 := List.mem_of_getElem? (i := 12) rfl
theorem t_13 : (Jvm.Cond.initialized "com/example/panoptes/panoptes/Cuts") ∈ tables_1 := List.mem_of_getElem? (i := 13) rfl
theorem t_14 : (Jvm.Cond.methodLink "com/example/panoptes/panoptes/CutsSecondPinLaw" (26 : Nat) ({ cls := "com/example/panoptes/panoptes/Cuts", name := "<init>", desc := "([JJJ)V" } : Jvm.MethodName)) ∈ tables_1 := List.mem_of_getElem? (i := 14) rfl
theorem t_15 : (Jvm.Cond.instanceMethod ({ cls := "com/example/panoptes/panoptes/Cuts", name := "<init>", desc := "([JJJ)V" } : Jvm.MethodName)) ∈ tables_1 := List.mem_of_getElem? (i := 15) rfl
theorem t_16 : (Jvm.Cond.code ({ cls := "com/example/panoptes/panoptes/Cuts", name := "<init>", desc := "([JJJ)V" } : Jvm.MethodName) prog_6_method_1_code (6 : Nat) (Option.none : Option Jvm.ClassFile.FieldType)) ∈ tables_1 := List.mem_of_getElem? (i := 16) rfl
theorem t_17 : (Jvm.Cond.methodLink "com/example/panoptes/panoptes/Cuts" (1 : Nat) ({ cls := "java/lang/Object", name := "<init>", desc := "()V" } : Jvm.MethodName)) ∈ tables_1 := List.mem_of_getElem? (i := 17) rfl
theorem t_18 : (Jvm.Cond.instanceMethod ({ cls := "java/lang/Object", name := "<init>", desc := "()V" } : Jvm.MethodName)) ∈ tables_1 := List.mem_of_getElem? (i := 18) rfl
theorem t_19 : (Jvm.Cond.code ({ cls := "java/lang/Object", name := "<init>", desc := "()V" } : Jvm.MethodName) object_method_1_code (1 : Nat) (Option.none : Option Jvm.ClassFile.FieldType)) ∈ tables_1 := List.mem_of_getElem? (i := 19) rfl
theorem t_20 : (Jvm.Cond.fieldLink "com/example/panoptes/panoptes/Cuts" (7 : Nat) "com/example/panoptes/panoptes/Cuts" "timestamps" "[J") ∈ tables_1 := List.mem_of_getElem? (i := 20) rfl
theorem t_21 : (Jvm.Cond.laysFinal "com/example/panoptes/panoptes/Cuts" "com/example/panoptes/panoptes/Cuts" "timestamps" "[J") ∈ tables_1 := List.mem_of_getElem? (i := 21) rfl
theorem t_22 : (Jvm.Cond.methodLink "com/example/panoptes/panoptes/Cuts" (13 : Nat) ({ cls := "com/example/panoptes/panoptes/Cuts", name := "firstNotBefore", desc := "([JIIJ)I" } : Jvm.MethodName)) ∈ tables_1 := List.mem_of_getElem? (i := 22) rfl
theorem t_23 : (Jvm.Cond.static ({ cls := "com/example/panoptes/panoptes/Cuts", name := "firstNotBefore", desc := "([JIIJ)I" } : Jvm.MethodName)) ∈ tables_1 := List.mem_of_getElem? (i := 23) rfl
theorem t_24 : (Jvm.Cond.code ({ cls := "com/example/panoptes/panoptes/Cuts", name := "firstNotBefore", desc := "([JIIJ)I" } : Jvm.MethodName) prog_6_method_5_code (6 : Nat) (Option.some Jvm.ClassFile.FieldType.int)) ∈ tables_1 := List.mem_of_getElem? (i := 24) rfl
theorem t_25 : (Jvm.Cond.methodLink "com/example/panoptes/panoptes/Cuts" (31 : Nat) ({ cls := "java/util/Arrays", name := "binarySearch", desc := "([JIIJ)I" } : Jvm.MethodName)) ∈ tables_1 := List.mem_of_getElem? (i := 25) rfl
theorem t_26 : (Jvm.Cond.static ({ cls := "java/util/Arrays", name := "binarySearch", desc := "([JIIJ)I" } : Jvm.MethodName)) ∈ tables_1 := List.mem_of_getElem? (i := 26) rfl
theorem t_27 : (Jvm.Cond.initialized "java/util/Arrays") ∈ tables_1 := List.mem_of_getElem? (i := 27) rfl
theorem t_28 : (Jvm.Cond.code ({ cls := "java/util/Arrays", name := "binarySearch", desc := "([JIIJ)I" } : Jvm.MethodName) jdk_65_method_55_code (5 : Nat) (Option.some Jvm.ClassFile.FieldType.int)) ∈ tables_1 := List.mem_of_getElem? (i := 28) rfl
theorem t_29 : (Jvm.Cond.methodLink "java/util/Arrays" (13 : Nat) ({ cls := "java/util/Arrays", name := "rangeCheck", desc := "(III)V" } : Jvm.MethodName)) ∈ tables_1 := List.mem_of_getElem? (i := 29) rfl
theorem t_30 : (Jvm.Cond.static ({ cls := "java/util/Arrays", name := "rangeCheck", desc := "(III)V" } : Jvm.MethodName)) ∈ tables_1 := List.mem_of_getElem? (i := 30) rfl
theorem t_31 : (Jvm.Cond.code ({ cls := "java/util/Arrays", name := "rangeCheck", desc := "(III)V" } : Jvm.MethodName) jdk_65_method_30_code (3 : Nat) (Option.none : Option Jvm.ClassFile.FieldType)) ∈ tables_1 := List.mem_of_getElem? (i := 31) rfl
theorem t_32 : (Jvm.Cond.methodLink "java/util/Arrays" (205 : Nat) ({ cls := "java/util/Arrays", name := "binarySearch0", desc := "([JIIJ)I" } : Jvm.MethodName)) ∈ tables_1 := List.mem_of_getElem? (i := 32) rfl
theorem t_33 : (Jvm.Cond.static ({ cls := "java/util/Arrays", name := "binarySearch0", desc := "([JIIJ)I" } : Jvm.MethodName)) ∈ tables_1 := List.mem_of_getElem? (i := 33) rfl
theorem t_34 : (Jvm.Cond.code ({ cls := "java/util/Arrays", name := "binarySearch0", desc := "([JIIJ)I" } : Jvm.MethodName) jdk_65_method_56_code (10 : Nat) (Option.some Jvm.ClassFile.FieldType.int)) ∈ tables_1 := List.mem_of_getElem? (i := 34) rfl
theorem t_35 : (Jvm.Cond.fieldLink "com/example/panoptes/panoptes/Cuts" (17 : Nat) "com/example/panoptes/panoptes/Cuts" "inside" "I") ∈ tables_1 := List.mem_of_getElem? (i := 35) rfl
theorem t_36 : (Jvm.Cond.laysFinal "com/example/panoptes/panoptes/Cuts" "com/example/panoptes/panoptes/Cuts" "inside" "I") ∈ tables_1 := List.mem_of_getElem? (i := 36) rfl
theorem t_37 : (Jvm.Cond.fieldLink "com/example/panoptes/panoptes/Cuts" (21 : Nat) "com/example/panoptes/panoptes/Cuts" "intervals" "I") ∈ tables_1 := List.mem_of_getElem? (i := 37) rfl
theorem t_38 : (Jvm.Cond.laysFinal "com/example/panoptes/panoptes/Cuts" "com/example/panoptes/panoptes/Cuts" "intervals" "I") ∈ tables_1 := List.mem_of_getElem? (i := 38) rfl
theorem t_39 : (Jvm.Cond.fieldLink "com/example/panoptes/panoptes/Cuts" (24 : Nat) "com/example/panoptes/panoptes/Cuts" "from" "J") ∈ tables_1 := List.mem_of_getElem? (i := 39) rfl
theorem t_40 : (Jvm.Cond.laysFinal "com/example/panoptes/panoptes/Cuts" "com/example/panoptes/panoptes/Cuts" "from" "J") ∈ tables_1 := List.mem_of_getElem? (i := 40) rfl
theorem t_41 : (Jvm.Cond.fieldLink "com/example/panoptes/panoptes/Cuts" (28 : Nat) "com/example/panoptes/panoptes/Cuts" "to" "J") ∈ tables_1 := List.mem_of_getElem? (i := 41) rfl
theorem t_42 : (Jvm.Cond.laysFinal "com/example/panoptes/panoptes/Cuts" "com/example/panoptes/panoptes/Cuts" "to" "J") ∈ tables_1 := List.mem_of_getElem? (i := 42) rfl
theorem t_43 : (Jvm.Cond.constant "com/example/panoptes/panoptes/CutsSecondPinLaw" (29 : Nat) (2147483647 : Int32)) ∈ tables_1 := List.mem_of_getElem? (i := 43) rfl
theorem t_44 : (Jvm.Cond.methodLink "com/example/panoptes/panoptes/CutsSecondPinLaw" (34 : Nat) ({ cls := "com/example/panoptes/panoptes/Cuts", name := "intervals", desc := "()I" } : Jvm.MethodName)) ∈ tables_1 := List.mem_of_getElem? (i := 44) rfl
theorem t_45 : (Jvm.Cond.declares ({ cls := "com/example/panoptes/panoptes/Cuts", name := "intervals", desc := "()I" } : Jvm.MethodName)) ∈ tables_1 := List.mem_of_getElem? (i := 45) rfl
theorem t_46 : (Jvm.Cond.instanceMethod ({ cls := "com/example/panoptes/panoptes/Cuts", name := "intervals", desc := "()I" } : Jvm.MethodName)) ∈ tables_1 := List.mem_of_getElem? (i := 46) rfl
theorem t_47 : (Jvm.Cond.selects "com/example/panoptes/panoptes/Cuts" ({ cls := "com/example/panoptes/panoptes/Cuts", name := "intervals", desc := "()I" } : Jvm.MethodName) ({ cls := "com/example/panoptes/panoptes/Cuts", name := "intervals", desc := "()I" } : Jvm.MethodName)) ∈ tables_1 := List.mem_of_getElem? (i := 47) rfl
theorem t_48 : (Jvm.Cond.code ({ cls := "com/example/panoptes/panoptes/Cuts", name := "intervals", desc := "()I" } : Jvm.MethodName) prog_6_method_2_code (1 : Nat) (Option.some Jvm.ClassFile.FieldType.int)) ∈ tables_1 := List.mem_of_getElem? (i := 48) rfl
theorem t_49 : (Jvm.Cond.methodLink "com/example/panoptes/panoptes/CutsSecondPinLaw" (38 : Nat) ({ cls := "com/example/panoptes/panoptes/Cuts", name := "second", desc := "(I)J" } : Jvm.MethodName)) ∈ tables_1 := List.mem_of_getElem? (i := 49) rfl
theorem t_50 : (Jvm.Cond.declares ({ cls := "com/example/panoptes/panoptes/Cuts", name := "second", desc := "(I)J" } : Jvm.MethodName)) ∈ tables_1 := List.mem_of_getElem? (i := 50) rfl
theorem t_51 : (Jvm.Cond.instanceMethod ({ cls := "com/example/panoptes/panoptes/Cuts", name := "second", desc := "(I)J" } : Jvm.MethodName)) ∈ tables_1 := List.mem_of_getElem? (i := 51) rfl
theorem t_52 : (Jvm.Cond.selects "com/example/panoptes/panoptes/Cuts" ({ cls := "com/example/panoptes/panoptes/Cuts", name := "second", desc := "(I)J" } : Jvm.MethodName) ({ cls := "com/example/panoptes/panoptes/Cuts", name := "second", desc := "(I)J" } : Jvm.MethodName)) ∈ tables_1 := List.mem_of_getElem? (i := 52) rfl
theorem t_53 : (Jvm.Cond.code ({ cls := "com/example/panoptes/panoptes/Cuts", name := "second", desc := "(I)J" } : Jvm.MethodName) prog_6_method_3_code (4 : Nat) (Option.some Jvm.ClassFile.FieldType.long)) ∈ tables_1 := List.mem_of_getElem? (i := 53) rfl
theorem t_54 : (Jvm.Cond.methodLink "com/example/panoptes/panoptes/CutsSecondPinLaw" (30 : Nat) ({ cls := "com/example/panoptes/panoptes/CutsSecondPinLaw", name := "pick", desc := "(JJJJI)J" } : Jvm.MethodName)) ∈ tables_1 := List.mem_of_getElem? (i := 54) rfl
theorem t_55 : (Jvm.Cond.static ({ cls := "com/example/panoptes/panoptes/CutsSecondPinLaw", name := "pick", desc := "(JJJJI)J" } : Jvm.MethodName)) ∈ tables_1 := List.mem_of_getElem? (i := 55) rfl
theorem t_56 : (Jvm.Cond.code ({ cls := "com/example/panoptes/panoptes/CutsSecondPinLaw", name := "pick", desc := "(JJJJI)J" } : Jvm.MethodName) method_4_code (9 : Nat) (Option.some Jvm.ClassFile.FieldType.long)) ∈ tables_1 := List.mem_of_getElem? (i := 56) rfl
theorem n8_8 : In jdk_65_method_56_code 8 (.iload 5) 2 10 := ⟨by decide +kernel, rfl⟩
theorem n8_10 : In jdk_65_method_56_code 10 (.iload 6) 2 12 := ⟨by decide +kernel, rfl⟩
theorem n8_12 : Jm jdk_65_method_56_code 12 (.if_icmp .gt 56) 56 15 68 := ⟨by decide +kernel, rfl, by decide, by decide⟩
theorem n8_68 : In jdk_65_method_56_code 68 (.iload 5) 2 70 := ⟨by decide +kernel, rfl⟩
theorem n8_70 : In jdk_65_method_56_code 70 (.iconst 1) 1 71 := ⟨by decide +kernel, rfl⟩
theorem n8_71 : In jdk_65_method_56_code 71 (.iadd) 1 72 := ⟨by decide +kernel, rfl⟩
theorem n8_72 : In jdk_65_method_56_code 72 (.ineg) 1 73 := ⟨by decide +kernel, rfl⟩
theorem n8_73 : In jdk_65_method_56_code 73 (.ireturn) 1 74 := ⟨by decide +kernel, rfl⟩
theorem n8_15 : In jdk_65_method_56_code 15 (.iload 5) 2 17 := ⟨by decide +kernel, rfl⟩
theorem n8_17 : In jdk_65_method_56_code 17 (.iload 6) 2 19 := ⟨by decide +kernel, rfl⟩
theorem n8_19 : In jdk_65_method_56_code 19 (.iadd) 1 20 := ⟨by decide +kernel, rfl⟩
theorem n8_20 : In jdk_65_method_56_code 20 (.iconst 1) 1 21 := ⟨by decide +kernel, rfl⟩
theorem n8_21 : In jdk_65_method_56_code 21 (.iushr) 1 22 := ⟨by decide +kernel, rfl⟩
theorem n8_22 : In jdk_65_method_56_code 22 (.istore 7) 2 24 := ⟨by decide +kernel, rfl⟩
theorem n8_24 : In jdk_65_method_56_code 24 (.aload_n 0) 1 25 := ⟨by decide +kernel, rfl⟩
theorem n8_25 : In jdk_65_method_56_code 25 (.iload 7) 2 27 := ⟨by decide +kernel, rfl⟩
theorem n8_27 : In jdk_65_method_56_code 27 (.laload) 1 28 := ⟨by decide +kernel, rfl⟩
theorem n8_28 : In jdk_65_method_56_code 28 (.lstore 8) 2 30 := ⟨by decide +kernel, rfl⟩
theorem n8_30 : In jdk_65_method_56_code 30 (.lload 8) 2 32 := ⟨by decide +kernel, rfl⟩
theorem n8_32 : In jdk_65_method_56_code 32 (.lload_n 3) 1 33 := ⟨by decide +kernel, rfl⟩
theorem n8_33 : In jdk_65_method_56_code 33 (.lcmp) 1 34 := ⟨by decide +kernel, rfl⟩
theorem n8_34 : Jm jdk_65_method_56_code 34 (.ifCond .ge 12) 12 37 46 := ⟨by decide +kernel, rfl, by decide, by decide⟩
theorem n8_46 : In jdk_65_method_56_code 46 (.lload 8) 2 48 := ⟨by decide +kernel, rfl⟩
theorem n8_48 : In jdk_65_method_56_code 48 (.lload_n 3) 1 49 := ⟨by decide +kernel, rfl⟩
theorem n8_49 : In jdk_65_method_56_code 49 (.lcmp) 1 50 := ⟨by decide +kernel, rfl⟩
theorem n8_50 : Jm jdk_65_method_56_code 50 (.ifCond .le 12) 12 53 62 := ⟨by decide +kernel, rfl, by decide, by decide⟩
theorem n8_62 : In jdk_65_method_56_code 62 (.iload 7) 2 64 := ⟨by decide +kernel, rfl⟩
theorem n8_64 : In jdk_65_method_56_code 64 (.ireturn) 1 65 := ⟨by decide +kernel, rfl⟩
theorem n8_53 : In jdk_65_method_56_code 53 (.iload 7) 2 55 := ⟨by decide +kernel, rfl⟩
theorem n8_55 : In jdk_65_method_56_code 55 (.iconst 1) 1 56 := ⟨by decide +kernel, rfl⟩
theorem n8_56 : In jdk_65_method_56_code 56 (.isub) 1 57 := ⟨by decide +kernel, rfl⟩
theorem n8_57 : In jdk_65_method_56_code 57 (.istore 6) 2 59 := ⟨by decide +kernel, rfl⟩
theorem n8_59 : Jm jdk_65_method_56_code 59 (.goto 6) 6 62 65 := ⟨by decide +kernel, rfl, by decide, by decide⟩
theorem n8_65 : Jm jdk_65_method_56_code 65 (.goto (-57)) (-57) 68 8 := ⟨by decide +kernel, rfl, by decide, by decide⟩
theorem n8_37 : In jdk_65_method_56_code 37 (.iload 7) 2 39 := ⟨by decide +kernel, rfl⟩
theorem n8_39 : In jdk_65_method_56_code 39 (.iconst 1) 1 40 := ⟨by decide +kernel, rfl⟩
theorem n8_40 : In jdk_65_method_56_code 40 (.iadd) 1 41 := ⟨by decide +kernel, rfl⟩
theorem n8_41 : In jdk_65_method_56_code 41 (.istore 5) 2 43 := ⟨by decide +kernel, rfl⟩
theorem n8_43 : Jm jdk_65_method_56_code 43 (.goto 22) 22 46 65 := ⟨by decide +kernel, rfl, by decide, by decide⟩
theorem n8_0 : In jdk_65_method_56_code 0 (.iload_n 1) 1 1 := ⟨by decide +kernel, rfl⟩
theorem n8_1 : In jdk_65_method_56_code 1 (.istore 5) 2 3 := ⟨by decide +kernel, rfl⟩
theorem n8_3 : In jdk_65_method_56_code 3 (.iload_n 2) 1 4 := ⟨by decide +kernel, rfl⟩
theorem n8_4 : In jdk_65_method_56_code 4 (.iconst 1) 1 5 := ⟨by decide +kernel, rfl⟩
theorem n8_5 : In jdk_65_method_56_code 5 (.isub) 1 6 := ⟨by decide +kernel, rfl⟩
theorem n8_6 : In jdk_65_method_56_code 6 (.istore 6) 2 8 := ⟨by decide +kernel, rfl⟩
theorem pn_8 : plainFor (⟨"java/util/Arrays", "binarySearch0", "([JIIJ)I"⟩ : MethodName) = true := plainFor_of_name (by first | (simp [plainName, overriddenIn]; done) | decide +kernel)
theorem n7_0 : In jdk_65_method_30_code 0 (.iload_n 1) 1 1 := ⟨by decide +kernel, rfl⟩
theorem n7_1 : In jdk_65_method_30_code 1 (.iload_n 2) 1 2 := ⟨by decide +kernel, rfl⟩
theorem n7_2 : Jm jdk_65_method_30_code 2 (.if_icmp .le 44) 44 5 46 := ⟨by decide +kernel, rfl, by decide, by decide⟩
theorem n7_46 : In jdk_65_method_30_code 46 (.iload_n 1) 1 47 := ⟨by decide +kernel, rfl⟩
theorem n7_47 : Jm jdk_65_method_30_code 47 (.ifCond .ge 12) 12 50 59 := ⟨by decide +kernel, rfl, by decide, by decide⟩
theorem n7_59 : In jdk_65_method_30_code 59 (.iload_n 2) 1 60 := ⟨by decide +kernel, rfl⟩
theorem n7_60 : In jdk_65_method_30_code 60 (.iload_n 0) 1 61 := ⟨by decide +kernel, rfl⟩
theorem n7_61 : Jm jdk_65_method_30_code 61 (.if_icmp .le 12) 12 64 73 := ⟨by decide +kernel, rfl, by decide, by decide⟩
theorem n7_73 : In jdk_65_method_30_code 73 (.return_) 1 74 := ⟨by decide +kernel, rfl⟩
theorem pn_7 : plainFor (⟨"java/util/Arrays", "rangeCheck", "(III)V"⟩ : MethodName) = true := plainFor_of_name (by first | (simp [plainName, overriddenIn]; done) | decide +kernel)
theorem n6_0 : In jdk_65_method_55_code 0 (.aload_n 0) 1 1 := ⟨by decide +kernel, rfl⟩
theorem n6_1 : In jdk_65_method_55_code 1 (.arraylength) 1 2 := ⟨by decide +kernel, rfl⟩
theorem n6_2 : In jdk_65_method_55_code 2 (.iload_n 1) 1 3 := ⟨by decide +kernel, rfl⟩
theorem n6_3 : In jdk_65_method_55_code 3 (.iload_n 2) 1 4 := ⟨by decide +kernel, rfl⟩
theorem n6_4 : In jdk_65_method_55_code 4 (.invokestatic 13) 3 7 := ⟨by decide +kernel, rfl⟩
theorem pd_3734 : parseMethodDescriptor "(III)V" = some ⟨[.int, .int, .int], none⟩ := by decide +kernel
theorem n6_7 : In jdk_65_method_55_code 7 (.aload_n 0) 1 8 := ⟨by decide +kernel, rfl⟩
theorem n6_8 : In jdk_65_method_55_code 8 (.iload_n 1) 1 9 := ⟨by decide +kernel, rfl⟩
theorem n6_9 : In jdk_65_method_55_code 9 (.iload_n 2) 1 10 := ⟨by decide +kernel, rfl⟩
theorem n6_10 : In jdk_65_method_55_code 10 (.lload_n 3) 1 11 := ⟨by decide +kernel, rfl⟩
theorem n6_11 : In jdk_65_method_55_code 11 (.invokestatic 205) 3 14 := ⟨by decide +kernel, rfl⟩
theorem pd_5650 : parseMethodDescriptor "([JIIJ)I" = some ⟨[(.array .long), .int, .int, .long], some .int⟩ := by decide +kernel
theorem n6_14 : In jdk_65_method_55_code 14 (.ireturn) 1 15 := ⟨by decide +kernel, rfl⟩
theorem pn_6 : plainFor (⟨"java/util/Arrays", "binarySearch", "([JIIJ)I"⟩ : MethodName) = true := plainFor_of_name (by first | (simp [plainName, overriddenIn]; done) | decide +kernel)
theorem n5_0 : In prog_6_method_5_code 0 (.aload_n 0) 1 1 := ⟨by decide +kernel, rfl⟩
theorem n5_1 : In prog_6_method_5_code 1 (.iload_n 1) 1 2 := ⟨by decide +kernel, rfl⟩
theorem n5_2 : In prog_6_method_5_code 2 (.iload_n 2) 1 3 := ⟨by decide +kernel, rfl⟩
theorem n5_3 : In prog_6_method_5_code 3 (.lload_n 3) 1 4 := ⟨by decide +kernel, rfl⟩
theorem n5_4 : In prog_6_method_5_code 4 (.invokestatic 31) 3 7 := ⟨by decide +kernel, rfl⟩
theorem n5_7 : In prog_6_method_5_code 7 (.istore 5) 2 9 := ⟨by decide +kernel, rfl⟩
theorem n5_9 : In prog_6_method_5_code 9 (.iload 5) 2 11 := ⟨by decide +kernel, rfl⟩
theorem n5_11 : Jm prog_6_method_5_code 11 (.ifCond .lt 8) 8 14 19 := ⟨by decide +kernel, rfl, by decide, by decide⟩
theorem n5_19 : In prog_6_method_5_code 19 (.iload 5) 2 21 := ⟨by decide +kernel, rfl⟩
theorem n5_21 : In prog_6_method_5_code 21 (.ineg) 1 22 := ⟨by decide +kernel, rfl⟩
theorem n5_22 : In prog_6_method_5_code 22 (.iconst 1) 1 23 := ⟨by decide +kernel, rfl⟩
theorem n5_23 : In prog_6_method_5_code 23 (.isub) 1 24 := ⟨by decide +kernel, rfl⟩
theorem n5_24 : In prog_6_method_5_code 24 (.ireturn) 1 25 := ⟨by decide +kernel, rfl⟩
theorem n5_14 : In prog_6_method_5_code 14 (.iload 5) 2 16 := ⟨by decide +kernel, rfl⟩
theorem n5_16 : Jm prog_6_method_5_code 16 (.goto 8) 8 19 24 := ⟨by decide +kernel, rfl, by decide, by decide⟩
theorem pn_5 : plainFor (⟨"com/example/panoptes/panoptes/Cuts", "firstNotBefore", "([JIIJ)I"⟩ : MethodName) = true := plainFor_of_name (by first | (simp [plainName, overriddenIn]; done) | decide +kernel)
theorem n3_0 : In prog_6_method_1_code 0 (.aload_n 0) 1 1 := ⟨by decide +kernel, rfl⟩
theorem n3_1 : In prog_6_method_1_code 1 (.invokespecial 1) 3 4 := ⟨by decide +kernel, rfl⟩
theorem n3_4 : In prog_6_method_1_code 4 (.aload_n 0) 1 5 := ⟨by decide +kernel, rfl⟩
theorem n3_5 : In prog_6_method_1_code 5 (.aload_n 1) 1 6 := ⟨by decide +kernel, rfl⟩
theorem n3_6 : In prog_6_method_1_code 6 (.putfield 7) 3 9 := ⟨by decide +kernel, rfl⟩
theorem n3_9 : In prog_6_method_1_code 9 (.aload_n 0) 1 10 := ⟨by decide +kernel, rfl⟩
theorem n3_10 : In prog_6_method_1_code 10 (.aload_n 1) 1 11 := ⟨by decide +kernel, rfl⟩
theorem n3_11 : In prog_6_method_1_code 11 (.iconst 0) 1 12 := ⟨by decide +kernel, rfl⟩
theorem n3_12 : In prog_6_method_1_code 12 (.aload_n 1) 1 13 := ⟨by decide +kernel, rfl⟩
theorem n3_13 : In prog_6_method_1_code 13 (.arraylength) 1 14 := ⟨by decide +kernel, rfl⟩
theorem n3_14 : In prog_6_method_1_code 14 (.lload_n 2) 1 15 := ⟨by decide +kernel, rfl⟩
theorem n3_15 : In prog_6_method_1_code 15 (.lconst 1) 1 16 := ⟨by decide +kernel, rfl⟩
theorem n3_16 : In prog_6_method_1_code 16 (.ladd) 1 17 := ⟨by decide +kernel, rfl⟩
theorem n3_17 : In prog_6_method_1_code 17 (.invokestatic 13) 3 20 := ⟨by decide +kernel, rfl⟩
theorem n3_20 : In prog_6_method_1_code 20 (.putfield 17) 3 23 := ⟨by decide +kernel, rfl⟩
theorem n3_23 : In prog_6_method_1_code 23 (.aload_n 0) 1 24 := ⟨by decide +kernel, rfl⟩
theorem n3_24 : In prog_6_method_1_code 24 (.aload_n 1) 1 25 := ⟨by decide +kernel, rfl⟩
theorem n3_25 : In prog_6_method_1_code 25 (.aload_n 0) 1 26 := ⟨by decide +kernel, rfl⟩
theorem n3_26 : In prog_6_method_1_code 26 (.getfield 17) 3 29 := ⟨by decide +kernel, rfl⟩
theorem n3_29 : In prog_6_method_1_code 29 (.aload_n 1) 1 30 := ⟨by decide +kernel, rfl⟩
theorem n3_30 : In prog_6_method_1_code 30 (.arraylength) 1 31 := ⟨by decide +kernel, rfl⟩
theorem n3_31 : In prog_6_method_1_code 31 (.lload 4) 2 33 := ⟨by decide +kernel, rfl⟩
theorem n3_33 : In prog_6_method_1_code 33 (.invokestatic 13) 3 36 := ⟨by decide +kernel, rfl⟩
theorem n3_36 : In prog_6_method_1_code 36 (.aload_n 0) 1 37 := ⟨by decide +kernel, rfl⟩
theorem n3_37 : In prog_6_method_1_code 37 (.getfield 17) 3 40 := ⟨by decide +kernel, rfl⟩
theorem n3_40 : In prog_6_method_1_code 40 (.isub) 1 41 := ⟨by decide +kernel, rfl⟩
theorem n3_41 : In prog_6_method_1_code 41 (.iconst 1) 1 42 := ⟨by decide +kernel, rfl⟩
theorem n3_42 : In prog_6_method_1_code 42 (.iadd) 1 43 := ⟨by decide +kernel, rfl⟩
theorem n3_43 : In prog_6_method_1_code 43 (.putfield 21) 3 46 := ⟨by decide +kernel, rfl⟩
theorem n3_46 : In prog_6_method_1_code 46 (.aload_n 0) 1 47 := ⟨by decide +kernel, rfl⟩
theorem n3_47 : In prog_6_method_1_code 47 (.lload_n 2) 1 48 := ⟨by decide +kernel, rfl⟩
theorem n3_48 : In prog_6_method_1_code 48 (.putfield 24) 3 51 := ⟨by decide +kernel, rfl⟩
theorem n3_51 : In prog_6_method_1_code 51 (.aload_n 0) 1 52 := ⟨by decide +kernel, rfl⟩
theorem n3_52 : In prog_6_method_1_code 52 (.lload 4) 2 54 := ⟨by decide +kernel, rfl⟩
theorem n3_54 : In prog_6_method_1_code 54 (.putfield 28) 3 57 := ⟨by decide +kernel, rfl⟩
theorem n3_57 : In prog_6_method_1_code 57 (.return_) 1 58 := ⟨by decide +kernel, rfl⟩
theorem pn_3 : plainFor (⟨"com/example/panoptes/panoptes/Cuts", "<init>", "([JJJ)V"⟩ : MethodName) = true := plainFor_of_name (by first | (simp [plainName, overriddenIn]; done) | decide +kernel)
theorem n1_0 : In method_2_code 0 (.lload_n 0) 1 1 := ⟨by decide +kernel, rfl⟩
theorem n1_1 : In method_2_code 1 (.lload_n 2) 1 2 := ⟨by decide +kernel, rfl⟩
theorem n1_2 : In method_2_code 2 (.lcmp) 1 3 := ⟨by decide +kernel, rfl⟩
theorem n1_3 : Jm method_2_code 3 (.ifCond .gt 7) 7 6 10 := ⟨by decide +kernel, rfl, by decide, by decide⟩
theorem n1_10 : In method_2_code 10 (.iconst 0) 1 11 := ⟨by decide +kernel, rfl⟩
theorem n1_11 : In method_2_code 11 (.ireturn) 1 12 := ⟨by decide +kernel, rfl⟩
theorem n1_6 : In method_2_code 6 (.iconst 1) 1 7 := ⟨by decide +kernel, rfl⟩
theorem n1_7 : Jm method_2_code 7 (.goto 4) 4 10 11 := ⟨by decide +kernel, rfl, by decide, by decide⟩
theorem pn_1 : plainFor (⟨"com/example/panoptes/panoptes/CutsSecondPinLaw", "le", "(JJ)I"⟩ : MethodName) = true := plainFor_of_name (by first | (simp [plainName, overriddenIn]; done) | decide +kernel)
theorem n2_0 : In method_3_code 0 (.lload_n 0) 1 1 := ⟨by decide +kernel, rfl⟩
theorem n2_1 : In method_3_code 1 (.lload_n 2) 1 2 := ⟨by decide +kernel, rfl⟩
theorem n2_2 : In method_3_code 2 (.lcmp) 1 3 := ⟨by decide +kernel, rfl⟩
theorem n2_3 : Jm method_3_code 3 (.ifCond .ge 7) 7 6 10 := ⟨by decide +kernel, rfl, by decide, by decide⟩
theorem n2_10 : In method_3_code 10 (.iconst 0) 1 11 := ⟨by decide +kernel, rfl⟩
theorem n2_11 : In method_3_code 11 (.ireturn) 1 12 := ⟨by decide +kernel, rfl⟩
theorem n2_6 : In method_3_code 6 (.iconst 1) 1 7 := ⟨by decide +kernel, rfl⟩
theorem n2_7 : Jm method_3_code 7 (.goto 4) 4 10 11 := ⟨by decide +kernel, rfl, by decide, by decide⟩
theorem pn_2 : plainFor (⟨"com/example/panoptes/panoptes/CutsSecondPinLaw", "lt", "(JJ)I"⟩ : MethodName) = true := plainFor_of_name (by first | (simp [plainName, overriddenIn]; done) | decide +kernel)
theorem n11_0 : In method_4_code 0 (.iload 8) 2 2 := ⟨by decide +kernel, rfl⟩
theorem n11_2 : Jm method_4_code 2 (.ifCond .ne 5) 5 5 7 := ⟨by decide +kernel, rfl, by decide, by decide⟩
theorem n11_7 : In method_4_code 7 (.iload 8) 2 9 := ⟨by decide +kernel, rfl⟩
theorem n11_9 : In method_4_code 9 (.iconst 1) 1 10 := ⟨by decide +kernel, rfl⟩
theorem n11_10 : Jm method_4_code 10 (.if_icmp .ne 5) 5 13 15 := ⟨by decide +kernel, rfl, by decide, by decide⟩
theorem n11_15 : In method_4_code 15 (.iload 8) 2 17 := ⟨by decide +kernel, rfl⟩
theorem n11_17 : In method_4_code 17 (.iconst 2) 1 18 := ⟨by decide +kernel, rfl⟩
theorem n11_18 : Jm method_4_code 18 (.if_icmp .ne 6) 6 21 24 := ⟨by decide +kernel, rfl, by decide, by decide⟩
theorem n11_24 : In method_4_code 24 (.lload 6) 2 26 := ⟨by decide +kernel, rfl⟩
theorem n11_26 : In method_4_code 26 (.lreturn) 1 27 := ⟨by decide +kernel, rfl⟩
theorem n11_21 : In method_4_code 21 (.lload 4) 2 23 := ⟨by decide +kernel, rfl⟩
theorem n11_23 : In method_4_code 23 (.lreturn) 1 24 := ⟨by decide +kernel, rfl⟩
theorem n11_13 : In method_4_code 13 (.lload_n 2) 1 14 := ⟨by decide +kernel, rfl⟩
theorem n11_14 : In method_4_code 14 (.lreturn) 1 15 := ⟨by decide +kernel, rfl⟩
theorem n11_5 : In method_4_code 5 (.lload_n 0) 1 6 := ⟨by decide +kernel, rfl⟩
theorem n11_6 : In method_4_code 6 (.lreturn) 1 7 := ⟨by decide +kernel, rfl⟩
theorem pn_11 : plainFor (⟨"com/example/panoptes/panoptes/CutsSecondPinLaw", "pick", "(JJJJI)J"⟩ : MethodName) = true := plainFor_of_name (by first | (simp [plainName, overriddenIn]; done) | decide +kernel)
theorem n9_0 : In prog_6_method_2_code 0 (.aload_n 0) 1 1 := ⟨by decide +kernel, rfl⟩
theorem n9_1 : In prog_6_method_2_code 1 (.getfield 21) 3 4 := ⟨by decide +kernel, rfl⟩
theorem n9_4 : In prog_6_method_2_code 4 (.ireturn) 1 5 := ⟨by decide +kernel, rfl⟩
theorem pn_9 : plainFor (⟨"com/example/panoptes/panoptes/Cuts", "intervals", "()I"⟩ : MethodName) = true := plainFor_of_name (by first | (simp [plainName, overriddenIn]; done) | decide +kernel)
theorem n10_0 : In prog_6_method_3_code 0 (.iload_n 1) 1 1 := ⟨by decide +kernel, rfl⟩
theorem n10_1 : Jm prog_6_method_3_code 1 (.ifCond .ne 11) 11 4 12 := ⟨by decide +kernel, rfl, by decide, by decide⟩
theorem n10_12 : In prog_6_method_3_code 12 (.iload_n 1) 1 13 := ⟨by decide +kernel, rfl⟩
theorem n10_13 : In prog_6_method_3_code 13 (.aload_n 0) 1 14 := ⟨by decide +kernel, rfl⟩
theorem n10_14 : In prog_6_method_3_code 14 (.getfield 21) 3 17 := ⟨by decide +kernel, rfl⟩
theorem n10_17 : Jm prog_6_method_3_code 17 (.if_icmp .ne 11) 11 20 28 := ⟨by decide +kernel, rfl, by decide, by decide⟩
theorem n10_28 : In prog_6_method_3_code 28 (.aload_n 0) 1 29 := ⟨by decide +kernel, rfl⟩
theorem n10_29 : In prog_6_method_3_code 29 (.getfield 7) 3 32 := ⟨by decide +kernel, rfl⟩
theorem n10_32 : In prog_6_method_3_code 32 (.aload_n 0) 1 33 := ⟨by decide +kernel, rfl⟩
theorem n10_33 : In prog_6_method_3_code 33 (.getfield 17) 3 36 := ⟨by decide +kernel, rfl⟩
theorem n10_36 : In prog_6_method_3_code 36 (.iload_n 1) 1 37 := ⟨by decide +kernel, rfl⟩
theorem n10_37 : In prog_6_method_3_code 37 (.iadd) 1 38 := ⟨by decide +kernel, rfl⟩
theorem n10_38 : In prog_6_method_3_code 38 (.iconst 1) 1 39 := ⟨by decide +kernel, rfl⟩
theorem n10_39 : In prog_6_method_3_code 39 (.isub) 1 40 := ⟨by decide +kernel, rfl⟩
theorem n10_40 : In prog_6_method_3_code 40 (.laload) 1 41 := ⟨by decide +kernel, rfl⟩
theorem n10_41 : In prog_6_method_3_code 41 (.lstore_n 2) 1 42 := ⟨by decide +kernel, rfl⟩
theorem n10_42 : In prog_6_method_3_code 42 (.lload_n 2) 1 43 := ⟨by decide +kernel, rfl⟩
theorem n10_43 : In prog_6_method_3_code 43 (.lreturn) 1 44 := ⟨by decide +kernel, rfl⟩
theorem n10_20 : In prog_6_method_3_code 20 (.aload_n 0) 1 21 := ⟨by decide +kernel, rfl⟩
theorem n10_21 : In prog_6_method_3_code 21 (.getfield 28) 3 24 := ⟨by decide +kernel, rfl⟩
theorem n10_24 : In prog_6_method_3_code 24 (.lstore_n 2) 1 25 := ⟨by decide +kernel, rfl⟩
theorem n10_25 : Jm prog_6_method_3_code 25 (.goto 17) 17 28 42 := ⟨by decide +kernel, rfl, by decide, by decide⟩
theorem n10_4 : In prog_6_method_3_code 4 (.aload_n 0) 1 5 := ⟨by decide +kernel, rfl⟩
theorem n10_5 : In prog_6_method_3_code 5 (.getfield 24) 3 8 := ⟨by decide +kernel, rfl⟩
theorem n10_8 : In prog_6_method_3_code 8 (.lstore_n 2) 1 9 := ⟨by decide +kernel, rfl⟩
theorem n10_9 : Jm prog_6_method_3_code 9 (.goto 33) 33 12 42 := ⟨by decide +kernel, rfl, by decide, by decide⟩
theorem pn_10 : plainFor (⟨"com/example/panoptes/panoptes/Cuts", "second", "(I)J"⟩ : MethodName) = true := plainFor_of_name (by first | (simp [plainName, overriddenIn]; done) | decide +kernel)
theorem n0_88 : In code 88 (.iconst 4) 1 89 := ⟨at_88, rfl⟩
theorem n0_89 : In code 89 (.newarray .long) 2 91 := ⟨at_89, rfl⟩
theorem n0_91 : In code 91 (.dup) 1 92 := ⟨at_91, rfl⟩
theorem n0_92 : In code 92 (.iconst 0) 1 93 := ⟨at_92, rfl⟩
theorem n0_93 : In code 93 (.lload 6) 2 95 := ⟨at_93, rfl⟩
theorem n0_95 : In code 95 (.lastore) 1 96 := ⟨at_95, rfl⟩
theorem n0_96 : In code 96 (.dup) 1 97 := ⟨at_96, rfl⟩
theorem n0_97 : In code 97 (.iconst 1) 1 98 := ⟨at_97, rfl⟩
theorem n0_98 : In code 98 (.lload 8) 2 100 := ⟨at_98, rfl⟩
theorem n0_100 : In code 100 (.lastore) 1 101 := ⟨at_100, rfl⟩
theorem n0_101 : In code 101 (.dup) 1 102 := ⟨at_101, rfl⟩
theorem n0_102 : In code 102 (.iconst 2) 1 103 := ⟨at_102, rfl⟩
theorem n0_103 : In code 103 (.lload 10) 2 105 := ⟨at_103, rfl⟩
theorem n0_105 : In code 105 (.lastore) 1 106 := ⟨at_105, rfl⟩
theorem n0_106 : In code 106 (.dup) 1 107 := ⟨at_106, rfl⟩
theorem n0_107 : In code 107 (.iconst 3) 1 108 := ⟨at_107, rfl⟩
theorem n0_108 : In code 108 (.lload 12) 2 110 := ⟨at_108, rfl⟩
theorem n0_110 : In code 110 (.lastore) 1 111 := ⟨at_110, rfl⟩
theorem n0_111 : In code 111 (.astore 18) 2 113 := ⟨at_111, rfl⟩
theorem n0_113 : In code 113 (.lload 6) 2 115 := ⟨at_113, rfl⟩
theorem n0_115 : In code 115 (.lload 14) 2 117 := ⟨at_115, rfl⟩
theorem n0_117 : In code 117 (.invokestatic 15) 3 120 := ⟨at_117, rfl⟩
theorem pd_2751 : parseMethodDescriptor "(JJ)I" = some ⟨[.long, .long], some .int⟩ := by decide +kernel
theorem n0_120 : In code 120 (.lload 8) 2 122 := ⟨at_120, rfl⟩
theorem n0_122 : In code 122 (.lload 14) 2 124 := ⟨at_122, rfl⟩
theorem n0_124 : In code 124 (.invokestatic 15) 3 127 := ⟨at_124, rfl⟩
theorem n0_127 : In code 127 (.iadd) 1 128 := ⟨at_127, rfl⟩
theorem n0_128 : In code 128 (.lload 10) 2 130 := ⟨at_128, rfl⟩
theorem n0_130 : In code 130 (.lload 14) 2 132 := ⟨at_130, rfl⟩
theorem n0_132 : In code 132 (.invokestatic 15) 3 135 := ⟨at_132, rfl⟩
theorem n0_135 : In code 135 (.iadd) 1 136 := ⟨at_135, rfl⟩
theorem n0_136 : In code 136 (.lload 12) 2 138 := ⟨at_136, rfl⟩
theorem n0_138 : In code 138 (.lload 14) 2 140 := ⟨at_138, rfl⟩
theorem n0_140 : In code 140 (.invokestatic 15) 3 143 := ⟨at_140, rfl⟩
theorem n0_143 : In code 143 (.iadd) 1 144 := ⟨at_143, rfl⟩
theorem n0_144 : In code 144 (.istore 19) 2 146 := ⟨at_144, rfl⟩
theorem n0_146 : In code 146 (.lload 6) 2 148 := ⟨at_146, rfl⟩
theorem n0_148 : In code 148 (.lload 16) 2 150 := ⟨at_148, rfl⟩
theorem n0_150 : In code 150 (.invokestatic 21) 3 153 := ⟨at_150, rfl⟩
theorem n0_153 : In code 153 (.lload 8) 2 155 := ⟨at_153, rfl⟩
theorem n0_155 : In code 155 (.lload 16) 2 157 := ⟨at_155, rfl⟩
theorem n0_157 : In code 157 (.invokestatic 21) 3 160 := ⟨at_157, rfl⟩
theorem n0_160 : In code 160 (.iadd) 1 161 := ⟨at_160, rfl⟩
theorem n0_161 : In code 161 (.lload 10) 2 163 := ⟨at_161, rfl⟩
theorem n0_163 : In code 163 (.lload 16) 2 165 := ⟨at_163, rfl⟩
theorem n0_165 : In code 165 (.invokestatic 21) 3 168 := ⟨at_165, rfl⟩
theorem n0_168 : In code 168 (.iadd) 1 169 := ⟨at_168, rfl⟩
theorem n0_169 : In code 169 (.lload 12) 2 171 := ⟨at_169, rfl⟩
theorem n0_171 : In code 171 (.lload 16) 2 173 := ⟨at_171, rfl⟩
theorem n0_173 : In code 173 (.invokestatic 21) 3 176 := ⟨at_173, rfl⟩
theorem n0_176 : In code 176 (.iadd) 1 177 := ⟨at_176, rfl⟩
theorem n0_177 : In code 177 (.istore 20) 2 179 := ⟨at_177, rfl⟩
theorem n0_179 : In code 179 (.iload 20) 2 181 := ⟨at_179, rfl⟩
theorem n0_181 : In code 181 (.iload 19) 2 183 := ⟨at_181, rfl⟩
theorem n0_183 : In code 183 (.isub) 1 184 := ⟨at_183, rfl⟩
theorem n0_184 : In code 184 (.istore 21) 2 186 := ⟨at_184, rfl⟩
theorem n0_186 : In code 186 (.new 24) 3 189 := ⟨at_186, rfl⟩
theorem n0_189 : In code 189 (.dup) 1 190 := ⟨at_189, rfl⟩
theorem n0_190 : In code 190 (.aload 18) 2 192 := ⟨at_190, rfl⟩
theorem n0_192 : In code 192 (.lload 14) 2 194 := ⟨at_192, rfl⟩
theorem n0_194 : In code 194 (.lload 16) 2 196 := ⟨at_194, rfl⟩
theorem n0_196 : In code 196 (.invokespecial 26) 3 199 := ⟨at_196, rfl⟩
theorem pd_4838 : parseMethodDescriptor "([JJJ)V" = some ⟨[(.array .long), .long, .long], none⟩ := by decide +kernel
theorem n0_199 : In code 199 (.astore 22) 2 201 := ⟨at_199, rfl⟩
theorem n0_201 : In code 201 (.iload 5) 2 203 := ⟨at_201, rfl⟩
theorem n0_203 : In code 203 (.ldc 29) 2 205 := ⟨at_203, rfl⟩
theorem n0_205 : In code 205 (.iand) 1 206 := ⟨at_205, rfl⟩
theorem n0_206 : In code 206 (.iload 21) 2 208 := ⟨at_206, rfl⟩
theorem n0_208 : In code 208 (.iconst 2) 1 209 := ⟨at_208, rfl⟩
theorem n0_209 : In code 209 (.iadd) 1 210 := ⟨at_209, rfl⟩
theorem n0_210 : In code 210 (.irem) 1 211 := ⟨at_210, rfl⟩
theorem n0_211 : In code 211 (.istore 23) 2 213 := ⟨at_211, rfl⟩
theorem n0_213 : In code 213 (.iload 23) 2 215 := ⟨at_213, rfl⟩
theorem n0_215 : Jm code 215 (.ifCond .ne 10) 10 218 225 := ⟨at_215, rfl, by decide, by decide⟩
theorem n0_225 : In code 225 (.iload 23) 2 227 := ⟨at_225, rfl⟩
theorem n0_227 : In code 227 (.iload 21) 2 229 := ⟨at_227, rfl⟩
theorem n0_229 : In code 229 (.iconst 1) 1 230 := ⟨at_229, rfl⟩
theorem n0_230 : In code 230 (.iadd) 1 231 := ⟨at_230, rfl⟩
theorem n0_231 : Jm code 231 (.if_icmp .ne 10) 10 234 241 := ⟨at_231, rfl, by decide, by decide⟩
theorem n0_241 : In code 241 (.lload 6) 2 243 := ⟨at_241, rfl⟩
theorem n0_243 : In code 243 (.lload 8) 2 245 := ⟨at_243, rfl⟩
theorem n0_245 : In code 245 (.lload 10) 2 247 := ⟨at_245, rfl⟩
theorem n0_247 : In code 247 (.lload 12) 2 249 := ⟨at_247, rfl⟩
theorem n0_249 : In code 249 (.iload 19) 2 251 := ⟨at_249, rfl⟩
theorem n0_251 : In code 251 (.iload 23) 2 253 := ⟨at_251, rfl⟩
theorem n0_253 : In code 253 (.iadd) 1 254 := ⟨at_253, rfl⟩
theorem n0_254 : In code 254 (.iconst 1) 1 255 := ⟨at_254, rfl⟩
theorem n0_255 : In code 255 (.isub) 1 256 := ⟨at_255, rfl⟩
theorem n0_256 : In code 256 (.invokestatic 30) 3 259 := ⟨at_256, rfl⟩
theorem pd_5537 : parseMethodDescriptor "(JJJJI)J" = some ⟨[.long, .long, .long, .long, .int], some .long⟩ := by decide +kernel
theorem n0_259 : In code 259 (.lstore 24) 2 261 := ⟨at_259, rfl⟩
theorem n0_261 : In code 261 (.aload 22) 2 263 := ⟨at_261, rfl⟩
theorem n0_263 : In code 263 (.invokevirtual 34) 3 266 := ⟨at_263, rfl⟩
theorem pd_1265 : parseMethodDescriptor "()I" = some ⟨[], some .int⟩ := by decide +kernel
theorem n0_266 : In code 266 (.iload 21) 2 268 := ⟨at_266, rfl⟩
theorem n0_268 : In code 268 (.iconst 1) 1 269 := ⟨at_268, rfl⟩
theorem n0_269 : In code 269 (.iadd) 1 270 := ⟨at_269, rfl⟩
theorem n0_270 : Jm code 270 (.if_icmp .ne 20) 20 273 290 := ⟨at_270, rfl, by decide, by decide⟩
theorem n0_273 : In code 273 (.aload 22) 2 275 := ⟨at_273, rfl⟩
theorem n0_275 : In code 275 (.iload 23) 2 277 := ⟨at_275, rfl⟩
theorem n0_277 : In code 277 (.invokevirtual 38) 3 280 := ⟨at_277, rfl⟩
theorem pd_1973 : parseMethodDescriptor "(I)J" = some ⟨[.int], some .long⟩ := by decide +kernel
theorem n0_280 : In code 280 (.lload 24) 2 282 := ⟨at_280, rfl⟩
theorem n0_282 : In code 282 (.lcmp) 1 283 := ⟨at_282, rfl⟩
theorem n0_283 : Jm code 283 (.ifCond .ne 7) 7 286 290 := ⟨at_283, rfl, by decide, by decide⟩
theorem n0_286 : In code 286 (.iconst 1) 1 287 := ⟨at_286, rfl⟩
theorem n0_287 : Jm code 287 (.goto 4) 4 290 291 := ⟨at_287, rfl, by decide, by decide⟩
theorem n0_291 : In code 291 (.ireturn) 1 292 := ⟨at_291, rfl⟩
theorem n0_234 : In code 234 (.lload 16) 2 236 := ⟨at_234, rfl⟩
theorem n0_236 : In code 236 (.lstore 24) 2 238 := ⟨at_236, rfl⟩
theorem n0_238 : Jm code 238 (.goto 23) 23 241 261 := ⟨at_238, rfl, by decide, by decide⟩
theorem n0_218 : In code 218 (.lload 14) 2 220 := ⟨at_218, rfl⟩
theorem n0_220 : In code 220 (.lstore 24) 2 222 := ⟨at_220, rfl⟩
theorem n0_222 : Jm code 222 (.goto 39) 39 225 261 := ⟨at_222, rfl, by decide, by decide⟩
theorem n0_0 : In code 0 (.lload_n 0) 1 1 := ⟨at_0, rfl⟩
theorem n0_1 : In code 1 (.ldc2_w 9) 3 4 := ⟨at_1, rfl⟩
theorem n0_4 : In code 4 (.lcmp) 1 5 := ⟨at_4, rfl⟩
theorem n0_5 : Jm code 5 (.ifCond .gt 11) 11 8 16 := ⟨at_5, rfl, by decide, by decide⟩
theorem n0_16 : In code 16 (.iconst 1) 1 17 := ⟨at_16, rfl⟩
theorem n0_17 : In code 17 (.ireturn) 1 18 := ⟨at_17, rfl⟩
theorem n0_8 : In code 8 (.lload_n 0) 1 9 := ⟨at_8, rfl⟩
theorem n0_9 : In code 9 (.ldc2_w 11) 3 12 := ⟨at_9, rfl⟩
theorem n0_12 : In code 12 (.lcmp) 1 13 := ⟨at_12, rfl⟩
theorem n0_13 : Jm code 13 (.ifCond .ge 5) 5 16 18 := ⟨at_13, rfl, by decide, by decide⟩
theorem n0_18 : In code 18 (.lload_n 0) 1 19 := ⟨at_18, rfl⟩
theorem n0_19 : In code 19 (.lstore 6) 2 21 := ⟨at_19, rfl⟩
theorem n0_21 : In code 21 (.lload 6) 2 23 := ⟨at_21, rfl⟩
theorem n0_23 : In code 23 (.lconst 1) 1 24 := ⟨at_23, rfl⟩
theorem n0_24 : In code 24 (.ladd) 1 25 := ⟨at_24, rfl⟩
theorem n0_25 : In code 25 (.iload_n 2) 1 26 := ⟨at_25, rfl⟩
theorem n0_26 : In code 26 (.bipush 7) 2 28 := ⟨at_26, rfl⟩
theorem n0_28 : In code 28 (.iand) 1 29 := ⟨at_28, rfl⟩
theorem n0_29 : In code 29 (.i2l) 1 30 := ⟨at_29, rfl⟩
theorem n0_30 : In code 30 (.ladd) 1 31 := ⟨at_30, rfl⟩
theorem n0_31 : In code 31 (.lstore 8) 2 33 := ⟨at_31, rfl⟩
theorem n0_33 : In code 33 (.lload 8) 2 35 := ⟨at_33, rfl⟩
theorem n0_35 : In code 35 (.lconst 1) 1 36 := ⟨at_35, rfl⟩
theorem n0_36 : In code 36 (.ladd) 1 37 := ⟨at_36, rfl⟩
theorem n0_37 : In code 37 (.iload_n 2) 1 38 := ⟨at_37, rfl⟩
theorem n0_38 : In code 38 (.iconst 3) 1 39 := ⟨at_38, rfl⟩
theorem n0_39 : In code 39 (.iushr) 1 40 := ⟨at_39, rfl⟩
theorem n0_40 : In code 40 (.bipush 7) 2 42 := ⟨at_40, rfl⟩
theorem n0_42 : In code 42 (.iand) 1 43 := ⟨at_42, rfl⟩
theorem n0_43 : In code 43 (.i2l) 1 44 := ⟨at_43, rfl⟩
theorem n0_44 : In code 44 (.ladd) 1 45 := ⟨at_44, rfl⟩
theorem n0_45 : In code 45 (.lstore 10) 2 47 := ⟨at_45, rfl⟩
theorem n0_47 : In code 47 (.lload 10) 2 49 := ⟨at_47, rfl⟩
theorem n0_49 : In code 49 (.lconst 1) 1 50 := ⟨at_49, rfl⟩
theorem n0_50 : In code 50 (.ladd) 1 51 := ⟨at_50, rfl⟩
theorem n0_51 : In code 51 (.iload_n 2) 1 52 := ⟨at_51, rfl⟩
theorem n0_52 : In code 52 (.bipush 6) 2 54 := ⟨at_52, rfl⟩
theorem n0_54 : In code 54 (.iushr) 1 55 := ⟨at_54, rfl⟩
theorem n0_55 : In code 55 (.bipush 7) 2 57 := ⟨at_55, rfl⟩
theorem n0_57 : In code 57 (.iand) 1 58 := ⟨at_57, rfl⟩
theorem n0_58 : In code 58 (.i2l) 1 59 := ⟨at_58, rfl⟩
theorem n0_59 : In code 59 (.ladd) 1 60 := ⟨at_59, rfl⟩
theorem n0_60 : In code 60 (.lstore 12) 2 62 := ⟨at_60, rfl⟩
theorem n0_62 : In code 62 (.lload_n 0) 1 63 := ⟨at_62, rfl⟩
theorem n0_63 : In code 63 (.ldc2_w 13) 3 66 := ⟨at_63, rfl⟩
theorem n0_66 : In code 66 (.lsub) 1 67 := ⟨at_66, rfl⟩
theorem n0_67 : In code 67 (.iload_n 3) 1 68 := ⟨at_67, rfl⟩
theorem n0_68 : In code 68 (.bipush 31) 2 70 := ⟨at_68, rfl⟩
theorem n0_70 : In code 70 (.iand) 1 71 := ⟨at_70, rfl⟩
theorem n0_71 : In code 71 (.i2l) 1 72 := ⟨at_71, rfl⟩
theorem n0_72 : In code 72 (.ladd) 1 73 := ⟨at_72, rfl⟩
theorem n0_73 : In code 73 (.lstore 14) 2 75 := ⟨at_73, rfl⟩
theorem n0_75 : In code 75 (.lload 14) 2 77 := ⟨at_75, rfl⟩
theorem n0_77 : In code 77 (.lconst 1) 1 78 := ⟨at_77, rfl⟩
theorem n0_78 : In code 78 (.ladd) 1 79 := ⟨at_78, rfl⟩
theorem n0_79 : In code 79 (.iload 4) 2 81 := ⟨at_79, rfl⟩
theorem n0_81 : In code 81 (.bipush 31) 2 83 := ⟨at_81, rfl⟩
theorem n0_83 : In code 83 (.iand) 1 84 := ⟨at_83, rfl⟩
theorem n0_84 : In code 84 (.i2l) 1 85 := ⟨at_84, rfl⟩
theorem n0_85 : In code 85 (.ladd) 1 86 := ⟨at_85, rfl⟩
theorem n0_86 : In code 86 (.lstore 16) 2 88 := ⟨at_86, rfl⟩
theorem pn_0 : plainFor (⟨"com/example/panoptes/panoptes/CutsSecondPinLaw", "law", "(JIIII)Z"⟩ : MethodName) = true := plainFor_of_name (by first | (simp [plainName, overriddenIn]; done) | decide +kernel)
theorem own_eqI {t : Term} {k : Int32} {args : Array Value} {s : State} (h : (Cond.eq t (.int k)).value args s none s [] = some true) : t.eval args s none [] s = some (.int k) := by
  obtain ⟨x, y, h1, h2, h3, -⟩ := cmp_v (Or.inl h)
  cases (Option.some.inj h2 : (Value.int k) = y)
  cases x <;> first | (have := gotT (Cond.eq_ints h1 h2) h; rw [h1, this]; done) | (simp [Kin, Value.isRef] at h3; done)
theorem own_eqL {t : Term} {k : Int64} {args : Array Value} {s : State} (h : (Cond.eq t (.long k)).value args s none s [] = some true) : t.eval args s none [] s = some (.long k) := by
  obtain ⟨x, y, h1, h2, h3, -⟩ := cmp_v (Or.inl h)
  cases (Option.some.inj h2 : (Value.long k) = y)
  cases x <;> first | (have := gotT (eq_L h1 h2) h; rw [h1, this]; done) | (simp [Kin, Value.isRef] at h3; done)
theorem own_eqR {a b : Term} {y : Addr} {args : Array Value} {s : State} (h : (Cond.eq a b).value args s none s [] = some true) (hb : b.eval args s none [] s = some (.ref y)) : a.eval args s none [] s = some (.ref y) := by
  obtain ⟨x, y', h1, h2, h3, h4⟩ := cmp_v (Or.inl h)
  cases h2.symm.trans hb
  have hx : x.isRef = true := h4.2
  have := gotT (eq_R h1 h2 hx rfl) h
  rw [h1, this]
theorem own_nar1 : nar .boolean 1 = 1 := rfl
theorem own_nar0 : nar .boolean 0 = 0 := rfl
/-- the values of the array that the search sees -/
def Vals (cl : Cell) (n : Nat) (g : Nat → Int64) : Prop := cl.slots.size = n ∧ n ≤ 4 ∧ (∀ j, j < n → cl.slots[j]? = some (.long (g j))) ∧ ∀ i j, i < j → j < n → (g i).toInt < (g j).toInt
/-- r is the first place from lo to hi whose value isn't below key -/
def Fst (g : Nat → Int64) (lo hi : Nat) (key : Int64) (r : Nat) : Prop := lo ≤ r ∧ r ≤ hi ∧ (∀ j, lo ≤ j → j < r → (g j).toInt < key.toInt) ∧ ∀ j, r ≤ j → j < hi → key.toInt ≤ (g j).toInt
def own_mid (low high : Int32) : Int32 := ((low + high).toUInt32 >>> ((1 : Int32) &&& 31).toUInt32).toInt32
theorem own_mid_eq {low high : Int32} (h1 : 0 ≤ low.toInt) (h2 : low.toInt ≤ high.toInt) (h3 : high.toInt ≤ 4) : (own_mid low high).toInt = (low.toInt + high.toInt) / 2 := by
  have a := c_iadd low high
  have r := rng32 (low + high)
  have b := c_iushr (low + high) 1 1 (by decide) (by decide)
  unfold own_mid
  rw [b]; omega
theorem own_nat {x : Int32} (h : 0 ≤ x.toInt) : ((x.toNatClampNeg : Nat) : Int) = x.toInt := by
  simp only [Int32.toNatClampNeg]; omega
theorem own_of {n : Nat} (h : n ≤ 100) : (Int32.ofNat n).toInt = n := Int32.toInt_ofNat_of_lt (by omega)
theorem own_eq_of {x : Int32} {n : Nat} (h : n ≤ 100) (e : x.toInt = n) : x = Int32.ofNat n := Int32.toInt_inj.mp (by rw [own_of h, e])

theorem own_hi {r1 r2 : Nat} (h1 : r1 ≤ 4) (h2 : r2 ≤ 4) : (Int32.ofNat r1 + ((Int32.ofNat r2 - Int32.ofNat r1) + 1)) - 1 = Int32.ofNat r2 := by
  have a1 := own_of (n := r1) (by omega)
  have a2 := own_of (n := r2) (by omega)
  have b1 := c_isub (Int32.ofNat r2) (Int32.ofNat r1)
  have b2 := c_iadd (Int32.ofNat r2 - Int32.ofNat r1) 1
  have b3 := c_iadd (Int32.ofNat r1) ((Int32.ofNat r2 - Int32.ofNat r1) + 1)
  have b4 := c_isub (Int32.ofNat r1 + ((Int32.ofNat r2 - Int32.ofNat r1) + 1)) 1
  have c1 := rng32 (Int32.ofNat r2 - Int32.ofNat r1)
  have c2 := rng32 ((Int32.ofNat r2 - Int32.ofNat r1) + 1)
  have c3 := rng32 (Int32.ofNat r1 + ((Int32.ofNat r2 - Int32.ofNat r1) + 1))
  have c4 := rng32 ((Int32.ofNat r1 + ((Int32.ofNat r2 - Int32.ofNat r1) + 1)) - 1)
  have k1 : (1 : Int32).toInt = 1 := by decide
  apply Int32.toInt_inj.mp
  omega

def own_le (t x : Int64) : Int32 := if x < t then 0 else 1
def own_lt (t x : Int64) : Int32 := if t < x then 1 else 0
def own_pk (t0 t1 t2 t3 : Int64) (i : Int32) : Int64 := if i = 0 then t0 else if i = 1 then t1 else if i = 2 then t2 else t3
def own_se (f t y : Int64) (c iv : Int32) : Int64 := if c = 0 then f else if c = iv then t else y
def own_g (t0 t1 t2 t3 : Int64) (j : Nat) : Int64 := if j = 0 then t0 else if j = 1 then t1 else if j = 2 then t2 else t3
theorem own_sum (r : Nat) (h : r ≤ 4) {a b c d : Int32} (ha : a = if 0 < r then 1 else 0) (hb : b = if 1 < r then 1 else 0) (hc : c = if 2 < r then 1 else 0) (hd : d = if 3 < r then 1 else 0) : ((a + b) + c) + d = Int32.ofNat r := by
  subst ha hb hc hd
  rcases (by omega : r = 0 ∨ r = 1 ∨ r = 2 ∨ r = 3 ∨ r = 4) with rfl | rfl | rfl | rfl | rfl <;> decide
theorem own_S {t0 t1 t2 t3 f : Int64} (hf : (f + 1).toInt = f.toInt + 1) {r : Nat} (hF : Fst (own_g t0 t1 t2 t3) 0 4 (f + 1) r) : ((own_le t0 f + own_le t1 f) + own_le t2 f) + own_le t3 f = Int32.ofNat r := by
  obtain ⟨a1, a2, a3, a4⟩ := hF
  have key : ∀ j, j < 4 → own_le (own_g t0 t1 t2 t3 j) f = if j < r then 1 else 0 := fun j hj => by
    unfold own_le
    by_cases q : j < r
    · have := a3 j (Nat.zero_le _) q; rw [if_pos q, if_neg]; rw [Int64.lt_iff_toInt_lt]; omega
    · have := a4 j (by omega) hj; rw [if_neg q, if_pos]; rw [Int64.lt_iff_toInt_lt]; omega
  exact own_sum r a2 (key 0 (by decide)) (key 1 (by decide)) (key 2 (by decide)) (key 3 (by decide))
theorem own_U {t0 t1 t2 t3 f u : Int64} (hf : (f + 1).toInt = f.toInt + 1) (hu : f.toInt < u.toInt) {r1 r : Nat} (hF1 : Fst (own_g t0 t1 t2 t3) 0 4 (f + 1) r1) (hF : Fst (own_g t0 t1 t2 t3) r1 4 u r) : ((own_lt t0 u + own_lt t1 u) + own_lt t2 u) + own_lt t3 u = Int32.ofNat r := by
  obtain ⟨-, -, b3, -⟩ := hF1
  obtain ⟨a1, a2, a3, a4⟩ := hF
  have key : ∀ j, j < 4 → own_lt (own_g t0 t1 t2 t3 j) u = if j < r then 1 else 0 := fun j hj => by
    unfold own_lt
    by_cases q : j < r
    · rw [if_pos q, if_pos]
      rw [Int64.lt_iff_toInt_lt]
      by_cases q' : j < r1
      · have := b3 j (Nat.zero_le _) q'; omega
      · exact a3 j (by omega) q
    · have := a4 j (by omega) hj; rw [if_neg q, if_neg]; rw [Int64.lt_iff_toInt_lt]; omega
  exact own_sum r a2 (key 0 (by decide)) (key 1 (by decide)) (key 2 (by decide)) (key 3 (by decide))
theorem own_k {r1 r2 : Nat} (h1 : r1 ≤ r2) (h2 : r2 ≤ 4) : ((Int32.ofNat r2 - Int32.ofNat r1) + 1).toInt = (r2 : Int) - r1 + 1 ∧ ((Int32.ofNat r2 - Int32.ofNat r1) + 2).toInt = (r2 : Int) - r1 + 2 := by
  have a1 := own_of (n := r1) (by omega)
  have a2 := own_of (n := r2) (by omega)
  have b1 := c_isub (Int32.ofNat r2) (Int32.ofNat r1)
  have b2 := c_iadd (Int32.ofNat r2 - Int32.ofNat r1) 1
  have b3 := c_iadd (Int32.ofNat r2 - Int32.ofNat r1) 2
  have c1 := rng32 (Int32.ofNat r2 - Int32.ofNat r1)
  have c2 := rng32 ((Int32.ofNat r2 - Int32.ofNat r1) + 1)
  have c3 := rng32 ((Int32.ofNat r2 - Int32.ofNat r1) + 2)
  have k1 : (1 : Int32).toInt = 1 := by decide
  have k2 : (2 : Int32).toInt = 2 := by decide
  omega
theorem own_nz {r1 r2 : Nat} (h1 : r1 ≤ r2) (h2 : r2 ≤ 4) : (Int32.ofNat r2 - Int32.ofNat r1) + 2 ≠ 0 := fun q => by
  have := (own_k h1 h2).2
  rw [q] at this
  have k0 : (0 : Int32).toInt = 0 := by decide
  omega
theorem own_c {r1 r2 : Nat} (h1 : r1 ≤ r2) (h2 : r2 ≤ 4) (x : Int32) : 0 ≤ ((x &&& 2147483647) % ((Int32.ofNat r2 - Int32.ofNat r1) + 2)).toInt ∧ ((x &&& 2147483647) % ((Int32.ofNat r2 - Int32.ofNat r1) + 2)).toInt ≤ (r2 : Int) - r1 + 1 := by
  have m := c_mask x 2147483647 31 (by decide) (by decide)
  have k := (own_k h1 h2).2
  have h := (c_irem (x &&& 2147483647) ((Int32.ofNat r2 - Int32.ofNat r1) + 2) ((r2 : Int) - r1 + 2) k).1 (by rw [m]; omega)
  have p1 := Int.emod_nonneg (x &&& 2147483647).toInt (b := (r2 : Int) - r1 + 2) (by omega)
  have p2 := Int.emod_lt_of_pos (x &&& 2147483647).toInt (b := (r2 : Int) - r1 + 2) (by omega)
  rw [h]; omega
theorem own_hat {cl : Cell} {t0 t1 t2 t3 : Int64} (hV : Vals cl 4 (own_g t0 t1 t2 t3)) {r1 r2 : Nat} (h1 : r1 ≤ r2) (h2 : r2 ≤ 4) {c : Int32} (c0 : 0 ≤ c.toInt) (c1 : c.toInt ≤ (r2 : Int) - r1 + 1) (n0 : ¬ c = 0) (n1 : ¬ c = (Int32.ofNat r2 - Int32.ofNat r1) + 1) :
    ¬ ((Int32.ofNat r1 + c) - 1 < 0 ∨ cl.slots.size ≤ ((Int32.ofNat r1 + c) - 1).toNatClampNeg) ∧ cl.slots[((Int32.ofNat r1 + c) - 1).toNatClampNeg]? = some (.long (own_pk t0 t1 t2 t3 ((Int32.ofNat r1 + c) - 1))) := by
  obtain ⟨hsz, -, hval, -⟩ := hV
  have k := (own_k h1 h2).1
  have m0 : c.toInt ≠ 0 := fun q => n0 (Int32.toInt_inj.mp (by rw [q]; decide))
  have m1 : c.toInt ≠ (r2 : Int) - r1 + 1 := fun q => n1 (Int32.toInt_inj.mp (by rw [q, k]))
  have a1 := own_of (n := r1) (by omega)
  have b1 := c_iadd (Int32.ofNat r1) c
  have b2 := c_isub (Int32.ofNat r1 + c) 1
  have d1 := rng32 (Int32.ofNat r1 + c)
  have d2 := rng32 ((Int32.ofNat r1 + c) - 1)
  have k1 : (1 : Int32).toInt = 1 := by decide
  have k0 : (0 : Int32).toInt = 0 := by decide
  have e : ((Int32.ofNat r1 + c) - 1).toInt = (r1 : Int) + c.toInt - 1 := by omega
  generalize (Int32.ofNat r1 + c) - 1 = i at *
  have hn := own_nat (x := i) (by omega)
  refine ⟨by rw [Int32.lt_iff_toInt_lt]; omega, ?_⟩
  rw [hval _ (by omega)]
  have hi : i = 0 ∨ i = 1 ∨ i = 2 ∨ i = 3 := by
    rw [← Int32.toInt_inj, ← Int32.toInt_inj, ← Int32.toInt_inj, ← Int32.toInt_inj, k0, k1, show (2 : Int32).toInt = 2 from by decide, show (3 : Int32).toInt = 3 from by decide]; omega
  rcases hi with rfl | rfl | rfl | rfl <;> rfl
theorem own_arith (x : Int64) (a b d : Int32) (h1 : ¬ x < (-9223372036854775800 : Int64)) (h2 : ¬ (9223372036854775743 : Int64) < x) : x.toInt < ((x + 1) + (a &&& 7).toInt64).toInt ∧ ((x + 1) + (a &&& 7).toInt64).toInt < ((((x + 1) + (a &&& 7).toInt64) + 1) + (((a.toUInt32 >>> ((3 : Int32) &&& 31).toUInt32).toInt32) &&& 7).toInt64).toInt ∧ ((((x + 1) + (a &&& 7).toInt64) + 1) + (((a.toUInt32 >>> ((3 : Int32) &&& 31).toUInt32).toInt32) &&& 7).toInt64).toInt < ((((((x + 1) + (a &&& 7).toInt64) + 1) + (((a.toUInt32 >>> ((3 : Int32) &&& 31).toUInt32).toInt32) &&& 7).toInt64) + 1) + (((a.toUInt32 >>> ((6 : Int32) &&& 31).toUInt32).toInt32) &&& 7).toInt64).toInt ∧ (((x - 4) + (b &&& 31).toInt64) + 1).toInt = ((x - 4) + (b &&& 31).toInt64).toInt + 1 ∧ ((x - 4) + (b &&& 31).toInt64).toInt < ((((x - 4) + (b &&& 31).toInt64) + 1) + (d &&& 31).toInt64).toInt := by
  rw [Int64.lt_iff_toInt_lt] at h1 h2
  have k1 : (-9223372036854775800 : Int64).toInt = -9223372036854775800 := by decide
  have k2 : (9223372036854775743 : Int64).toInt = 9223372036854775743 := by decide
  have k3 : (1 : Int64).toInt = 1 := by decide
  have k4 : (4 : Int64).toInt = 4 := by decide
  have m1 := c_mask a 7 3 (by decide) (by decide)
  have m2 := c_mask ((a.toUInt32 >>> ((3 : Int32) &&& 31).toUInt32).toInt32) 7 3 (by decide) (by decide)
  have m3 := c_mask ((a.toUInt32 >>> ((6 : Int32) &&& 31).toUInt32).toInt32) 7 3 (by decide) (by decide)
  have m4 := c_mask b 31 5 (by decide) (by decide)
  have m5 := c_mask d 31 5 (by decide) (by decide)
  have i1 := c_i2l (a &&& 7)
  have i2 := c_i2l (((a.toUInt32 >>> ((3 : Int32) &&& 31).toUInt32).toInt32) &&& 7)
  have i3 := c_i2l (((a.toUInt32 >>> ((6 : Int32) &&& 31).toUInt32).toInt32) &&& 7)
  have i4 := c_i2l (b &&& 31)
  have i5 := c_i2l (d &&& 31)
  have a1 := c_ladd x 1; have r1 := rng64 (x + 1)
  have a2 := c_ladd (x + 1) (a &&& 7).toInt64; have r2 := rng64 ((x + 1) + (a &&& 7).toInt64)
  have a3 := c_ladd ((x + 1) + (a &&& 7).toInt64) 1; have r3 := rng64 (((x + 1) + (a &&& 7).toInt64) + 1)
  have a4 := c_ladd (((x + 1) + (a &&& 7).toInt64) + 1) (((a.toUInt32 >>> ((3 : Int32) &&& 31).toUInt32).toInt32) &&& 7).toInt64; have r4 := rng64 ((((x + 1) + (a &&& 7).toInt64) + 1) + (((a.toUInt32 >>> ((3 : Int32) &&& 31).toUInt32).toInt32) &&& 7).toInt64)
  have a5 := c_ladd ((((x + 1) + (a &&& 7).toInt64) + 1) + (((a.toUInt32 >>> ((3 : Int32) &&& 31).toUInt32).toInt32) &&& 7).toInt64) 1; have r5 := rng64 (((((x + 1) + (a &&& 7).toInt64) + 1) + (((a.toUInt32 >>> ((3 : Int32) &&& 31).toUInt32).toInt32) &&& 7).toInt64) + 1)
  have a6 := c_ladd (((((x + 1) + (a &&& 7).toInt64) + 1) + (((a.toUInt32 >>> ((3 : Int32) &&& 31).toUInt32).toInt32) &&& 7).toInt64) + 1) (((a.toUInt32 >>> ((6 : Int32) &&& 31).toUInt32).toInt32) &&& 7).toInt64; have r6 := rng64 ((((((x + 1) + (a &&& 7).toInt64) + 1) + (((a.toUInt32 >>> ((3 : Int32) &&& 31).toUInt32).toInt32) &&& 7).toInt64) + 1) + (((a.toUInt32 >>> ((6 : Int32) &&& 31).toUInt32).toInt32) &&& 7).toInt64)
  have a7 := c_lsub x 4; have r7 := rng64 (x - 4)
  have a8 := c_ladd (x - 4) (b &&& 31).toInt64; have r8 := rng64 ((x - 4) + (b &&& 31).toInt64)
  have a9 := c_ladd ((x - 4) + (b &&& 31).toInt64) 1; have r9 := rng64 (((x - 4) + (b &&& 31).toInt64) + 1)
  have a10 := c_ladd (((x - 4) + (b &&& 31).toInt64) + 1) (d &&& 31).toInt64; have r10 := rng64 ((((x - 4) + (b &&& 31).toInt64) + 1) + (d &&& 31).toInt64)
  refine ⟨?_, ?_, ?_, ?_, ?_⟩ <;> omega

set_option maxRecDepth 65536 in
set_option maxHeartbeats 40000000 in
theorem bs_turn (l : Launch) (Z : State) (a0 : Array Value) (hw : ∀ d ∈ tables_1, d.before a0 Z = true) (a1 : Addr) (cl : Cell) (lo hi low high : Int32) (key y : Int64) (s7 s8 s9 : Slot) (Qg : Option Value → Heap → List Loc → Prop) (h0 : Heap) {p : Program} {e : Env} {s : State} {m : MethodId} {args : Array Value} {below : List Frame} {meth : Method} {c : Code} {T0 : State} (X0 : Stand p l e ({ frames := 0, cells := 0, slots := 0, locals := 0 } : Room) s m args below meth c T0 [] 0 0) (hx : p.tables.exec = Jvm.exec) (hby : c.code = jdk_65_method_56_code) (hml : c.maxLocals = 10) (hown : s.vm.findClass "java/util/Arrays" = some m.cls) (hret : meth.sig.returnType = (some .int)) (hlk : meth.locks = false) (hZ : Z.Warmed39 s.vm) (e0 : T0.heap = h0) (Ar : Arr Z h0 a1 cl .long) (hs : (s7 = .unset ∧ s8 = .unset ∧ s9 = .unset) ∨ ∃ (u : Int32) (v : Int64), s7 = .val (.int u) ∧ s8 = .val (.long v) ∧ s9 = .second) (hat : ¬ high < low → ¬ ((((low + high).toUInt32 >>> ((1 : Int32) &&& 31).toUInt32).toInt32) < 0 ∨ cl.slots.size ≤ (((low + high).toUInt32 >>> ((1 : Int32) &&& 31).toUInt32).toInt32).toNatClampNeg) ∧ cl.slots[(((low + high).toUInt32 >>> ((1 : Int32) &&& 31).toUInt32).toInt32).toNatClampNeg]? = some (.long y)) (e1 : high < low → Qg (some (.int (-(low + (1 : Int32))))) h0 []) (e2 : ¬ high < low → ¬ y < key → ¬ key < y → Qg (some (.int (((low + high).toUInt32 >>> ((1 : Int32) &&& 31).toUInt32).toInt32))) h0 []) (i1 : ¬ high < low → y < key → Wp p e below s ({ frames := 0, cells := 0, slots := 0, locals := 0 } : Room).cells ({ frames := 0, cells := 0, slots := 0, locals := 0 } : Room).slots Qg T0 (mkF m 8 #[.val (.ref a1), .val (.int lo), .val (.int hi), .val (.long key), .second, .val (.int ((((low + high).toUInt32 >>> ((1 : Int32) &&& 31).toUInt32).toInt32) + (1 : Int32))), .val (.int high), .val (.int (((low + high).toUInt32 >>> ((1 : Int32) &&& 31).toUInt32).toInt32)), .val (.long y), .second] [])) (i2 : ¬ high < low → ¬ y < key → key < y → Wp p e below s ({ frames := 0, cells := 0, slots := 0, locals := 0 } : Room).cells ({ frames := 0, cells := 0, slots := 0, locals := 0 } : Room).slots Qg T0 (mkF m 8 #[.val (.ref a1), .val (.int lo), .val (.int hi), .val (.long key), .second, .val (.int low), .val (.int ((((low + high).toUInt32 >>> ((1 : Int32) &&& 31).toUInt32).toInt32) - (1 : Int32))), .val (.int (((low + high).toUInt32 >>> ((1 : Int32) &&& 31).toUInt32).toInt32)), .val (.long y), .second] [])) : Wp p e below s ({ frames := 0, cells := 0, slots := 0, locals := 0 } : Room).cells ({ frames := 0, cells := 0, slots := 0, locals := 0 } : Room).slots (Qg) T0 (mkF m 8 #[.val (.ref a1), .val (.int lo), .val (.int hi), .val (.long key), .second, .val (.int low), .val (.int high), s7, s8, s9] []) := by
  rcases hs with ⟨rfl, rfl, rfl⟩ | ⟨u, v, rfl, rfl, rfl⟩
  · refine w_iload X0 hx hby n8_8 rfl ?_
    refine w_iload X0 hx hby n8_10 rfl ?_
    refine f_icmp_gt X0 hx hby n8_12 (fun q12 => ?_) (fun q12 => ?_)
    · refine w_iload X0 hx hby n8_68 rfl ?_
      refine w_iconst X0 hx hby (1 : Int32) n8_70 rfl ?_
      refine w_iadd X0 hx hby n8_71 ?_
      refine w_ineg X0 hx hby n8_72 ?_
      refine w_retI X0 hx hby e0 hlk hret n8_73 (by decide) (by decide) ?_
      exact e1 q12
    · refine w_iload X0 hx hby n8_15 rfl ?_
      refine w_iload X0 hx hby n8_17 rfl ?_
      refine w_iadd X0 hx hby n8_19 ?_
      refine w_iconst X0 hx hby (1 : Int32) n8_20 rfl ?_
      refine w_iushr X0 hx hby n8_21 ?_
      refine w_istore X0 hx hby #[.val (.ref a1), .val (.int lo), .val (.int hi), .val (.long key), .second, .val (.int low), .val (.int high), .val (.int (((low + high).toUInt32 >>> ((1 : Int32) &&& 31).toUInt32).toInt32)), .unset, .unset] n8_22 rfl ?_
      refine w_aloadN X0 hx hby n8_24 rfl rfl ?_
      refine w_iload X0 hx hby n8_25 rfl ?_
      refine w_laload X0 hx hby hZ e0 Ar (hat q12).1 (hat q12).2 n8_27 ?_
      refine w_lstore X0 hx hby #[.val (.ref a1), .val (.int lo), .val (.int hi), .val (.long key), .second, .val (.int low), .val (.int high), .val (.int (((low + high).toUInt32 >>> ((1 : Int32) &&& 31).toUInt32).toInt32)), .val (.long y), .second] n8_28 rfl ?_
      refine w_lload X0 hx hby n8_30 rfl ?_
      refine w_lloadN X0 hx hby n8_32 rfl ?_
      refine f_lcmp_ge X0 hx hby n8_33 n8_34 (fun q33 => ?_) (fun q33 => ?_)
      · refine w_lload X0 hx hby n8_46 rfl ?_
        refine w_lloadN X0 hx hby n8_48 rfl ?_
        refine f_lcmp_le X0 hx hby n8_49 n8_50 (fun q49 => ?_) (fun q49 => ?_)
        · refine w_iload X0 hx hby n8_62 rfl ?_
          refine w_retI X0 hx hby e0 hlk hret n8_64 (by decide) (by decide) ?_
          exact e2 q12 q33 q49
        · refine w_iload X0 hx hby n8_53 rfl ?_
          refine w_iconst X0 hx hby (1 : Int32) n8_55 rfl ?_
          refine w_isub X0 hx hby n8_56 ?_
          refine w_istore X0 hx hby #[.val (.ref a1), .val (.int lo), .val (.int hi), .val (.long key), .second, .val (.int low), .val (.int ((((low + high).toUInt32 >>> ((1 : Int32) &&& 31).toUInt32).toInt32) - (1 : Int32))), .val (.int (((low + high).toUInt32 >>> ((1 : Int32) &&& 31).toUInt32).toInt32)), .val (.long y), .second] n8_57 rfl ?_
          refine w_goto X0 hx hby n8_59 ?_
          refine w_goto X0 hx hby n8_65 ?_
          exact i2 q12 q33 q49
      · refine w_iload X0 hx hby n8_37 rfl ?_
        refine w_iconst X0 hx hby (1 : Int32) n8_39 rfl ?_
        refine w_iadd X0 hx hby n8_40 ?_
        refine w_istore X0 hx hby #[.val (.ref a1), .val (.int lo), .val (.int hi), .val (.long key), .second, .val (.int ((((low + high).toUInt32 >>> ((1 : Int32) &&& 31).toUInt32).toInt32) + (1 : Int32))), .val (.int high), .val (.int (((low + high).toUInt32 >>> ((1 : Int32) &&& 31).toUInt32).toInt32)), .val (.long y), .second] n8_41 rfl ?_
        refine w_goto X0 hx hby n8_43 ?_
        refine w_goto X0 hx hby n8_65 ?_
        exact i1 q12 q33
  · refine w_iload X0 hx hby n8_8 rfl ?_
    refine w_iload X0 hx hby n8_10 rfl ?_
    refine f_icmp_gt X0 hx hby n8_12 (fun q12 => ?_) (fun q12 => ?_)
    · refine w_iload X0 hx hby n8_68 rfl ?_
      refine w_iconst X0 hx hby (1 : Int32) n8_70 rfl ?_
      refine w_iadd X0 hx hby n8_71 ?_
      refine w_ineg X0 hx hby n8_72 ?_
      refine w_retI X0 hx hby e0 hlk hret n8_73 (by decide) (by decide) ?_
      exact e1 q12
    · refine w_iload X0 hx hby n8_15 rfl ?_
      refine w_iload X0 hx hby n8_17 rfl ?_
      refine w_iadd X0 hx hby n8_19 ?_
      refine w_iconst X0 hx hby (1 : Int32) n8_20 rfl ?_
      refine w_iushr X0 hx hby n8_21 ?_
      refine w_istore X0 hx hby #[.val (.ref a1), .val (.int lo), .val (.int hi), .val (.long key), .second, .val (.int low), .val (.int high), .val (.int (((low + high).toUInt32 >>> ((1 : Int32) &&& 31).toUInt32).toInt32)), .val (.long v), .second] n8_22 rfl ?_
      refine w_aloadN X0 hx hby n8_24 rfl rfl ?_
      refine w_iload X0 hx hby n8_25 rfl ?_
      refine w_laload X0 hx hby hZ e0 Ar (hat q12).1 (hat q12).2 n8_27 ?_
      refine w_lstore X0 hx hby #[.val (.ref a1), .val (.int lo), .val (.int hi), .val (.long key), .second, .val (.int low), .val (.int high), .val (.int (((low + high).toUInt32 >>> ((1 : Int32) &&& 31).toUInt32).toInt32)), .val (.long y), .second] n8_28 rfl ?_
      refine w_lload X0 hx hby n8_30 rfl ?_
      refine w_lloadN X0 hx hby n8_32 rfl ?_
      refine f_lcmp_ge X0 hx hby n8_33 n8_34 (fun q33 => ?_) (fun q33 => ?_)
      · refine w_lload X0 hx hby n8_46 rfl ?_
        refine w_lloadN X0 hx hby n8_48 rfl ?_
        refine f_lcmp_le X0 hx hby n8_49 n8_50 (fun q49 => ?_) (fun q49 => ?_)
        · refine w_iload X0 hx hby n8_62 rfl ?_
          refine w_retI X0 hx hby e0 hlk hret n8_64 (by decide) (by decide) ?_
          exact e2 q12 q33 q49
        · refine w_iload X0 hx hby n8_53 rfl ?_
          refine w_iconst X0 hx hby (1 : Int32) n8_55 rfl ?_
          refine w_isub X0 hx hby n8_56 ?_
          refine w_istore X0 hx hby #[.val (.ref a1), .val (.int lo), .val (.int hi), .val (.long key), .second, .val (.int low), .val (.int ((((low + high).toUInt32 >>> ((1 : Int32) &&& 31).toUInt32).toInt32) - (1 : Int32))), .val (.int (((low + high).toUInt32 >>> ((1 : Int32) &&& 31).toUInt32).toInt32)), .val (.long y), .second] n8_57 rfl ?_
          refine w_goto X0 hx hby n8_59 ?_
          refine w_goto X0 hx hby n8_65 ?_
          exact i2 q12 q33 q49
      · refine w_iload X0 hx hby n8_37 rfl ?_
        refine w_iconst X0 hx hby (1 : Int32) n8_39 rfl ?_
        refine w_iadd X0 hx hby n8_40 ?_
        refine w_istore X0 hx hby #[.val (.ref a1), .val (.int lo), .val (.int hi), .val (.long key), .second, .val (.int ((((low + high).toUInt32 >>> ((1 : Int32) &&& 31).toUInt32).toInt32) + (1 : Int32))), .val (.int high), .val (.int (((low + high).toUInt32 >>> ((1 : Int32) &&& 31).toUInt32).toInt32)), .val (.long y), .second] n8_41 rfl ?_
        refine w_goto X0 hx hby n8_43 ?_
        refine w_goto X0 hx hby n8_65 ?_
        exact i1 q12 q33
theorem bs_loop (l : Launch) (Z : State) (a0 : Array Value) (hw : ∀ d ∈ tables_1, d.before a0 Z = true) (a1 : Addr) (cl : Cell) (n lo hi : Nat) (g : Nat → Int64) (key : Int64) (h0 : Heap) {p : Program} {e : Env} {s : State} {m : MethodId} {args : Array Value} {below : List Frame} {meth : Method} {c : Code} {T0 : State} (X0 : Stand p l e ({ frames := 0, cells := 0, slots := 0, locals := 0 } : Room) s m args below meth c T0 [] 0 0) (hx : p.tables.exec = Jvm.exec) (hby : c.code = jdk_65_method_56_code) (hml : c.maxLocals = 10) (hown : s.vm.findClass "java/util/Arrays" = some m.cls) (hret : meth.sig.returnType = (some .int)) (hlk : meth.locks = false) (hZ : Z.Warmed39 s.vm) (e0 : T0.heap = h0) (Ar : Arr Z h0 a1 cl .long) (hV : Vals cl n g) (hhi : hi ≤ n) (lo' hi' : Int32) :
    ∀ (k : Nat) (low high : Int32) (s7 s8 s9 : Slot), high.toInt + 1 - low.toInt = k → lo ≤ low.toInt → high.toInt < hi → (∀ j : Nat, lo ≤ j → (j : Int) < low.toInt → (g j).toInt < key.toInt) → (∀ j : Nat, high.toInt < j → j < hi → key.toInt < (g j).toInt) → ((s7 = .unset ∧ s8 = .unset ∧ s9 = .unset) ∨ ∃ (u : Int32) (v : Int64), s7 = .val (.int u) ∧ s8 = .val (.long v) ∧ s9 = .second) →
      Wp p e below s ({ frames := 0, cells := 0, slots := 0, locals := 0 } : Room).cells ({ frames := 0, cells := 0, slots := 0, locals := 0 } : Room).slots (fun v h L => ∃ r, Fst g lo hi key r ∧ (v = some (.int (Int32.ofNat r)) ∨ v = some (.int (-(Int32.ofNat r + 1)))) ∧ h = h0 ∧ L = []) T0 (mkF m 8 #[.val (.ref a1), .val (.int lo'), .val (.int hi'), .val (.long key), .second, .val (.int low), .val (.int high), s7, s8, s9] []) := by
  obtain ⟨hsz, hn4, hval, hsort⟩ := hV
  intro k
  induction k using Nat.strongRecOn with
  | ind k ih =>
    intro low high s7 s8 s9 hk hlo hhig hA hB hs
    have hone : (1 : Int32).toInt = 1 := by decide
    by_cases hc : high < low
    · refine bs_turn l Z a0 hw a1 cl lo' hi' low high key 0 s7 s8 s9 _ h0 X0 hx hby hml hown hret hlk hZ e0 Ar hs (fun q => absurd hc q) (fun _ => ?_) (fun q => absurd hc q) (fun q => absurd hc q) (fun q => absurd hc q)
      rw [Int32.lt_iff_toInt_lt] at hc
      have e1 : low = Int32.ofNat low.toInt.toNat := own_eq_of (by omega) (by omega)
      refine ⟨low.toInt.toNat, ⟨by omega, by omega, fun j q1 q2 => hA j q1 (by omega), fun j q1 q2 => Int.le_of_lt (hB j (by omega) q2)⟩, Or.inr ?_, rfl, rfl⟩
      rw [← e1]
    · have hc' := hc
      rw [Int32.lt_iff_toInt_lt] at hc'
      have hm := own_mid_eq (low := low) (high := high) (by omega) (by omega) (by omega)
      have hmn := own_nat (x := own_mid low high) (by omega)
      have hjn : (own_mid low high).toNatClampNeg < n := by omega
      have hg := hval _ hjn
      have k0 : (0 : Int32).toInt = 0 := by decide
      have hin : ¬ (own_mid low high < 0 ∨ cl.slots.size ≤ (own_mid low high).toNatClampNeg) := by rw [Int32.lt_iff_toInt_lt]; omega
      refine bs_turn l Z a0 hw a1 cl lo' hi' low high key (g (own_mid low high).toNatClampNeg) s7 s8 s9 _ h0 X0 hx hby hml hown hret hlk hZ e0 Ar hs (fun _ => ⟨hin, hg⟩) (fun q => absurd q hc) (fun _ q1 q2 => ?_) (fun _ q1 => ?_) (fun _ q1 q2 => ?_)
      · rw [Int64.lt_iff_toInt_lt] at q1 q2
        have e1 : own_mid low high = Int32.ofNat (own_mid low high).toNatClampNeg := own_eq_of (by omega) (by omega)
        refine ⟨(own_mid low high).toNatClampNeg, ⟨by omega, by omega, fun j u1 u2 => ?_, fun j u1 u2 => ?_⟩, Or.inl ?_, rfl, rfl⟩
        · have := hsort j _ u2 hjn; omega
        · rcases Nat.eq_or_lt_of_le u1 with u | u
          · rw [← u]; omega
          · have := hsort _ j u (by omega); omega
        · rw [← e1]; rfl
      · rw [Int64.lt_iff_toInt_lt] at q1
        have ha := c_iadd (own_mid low high) 1
        have hr := rng32 (own_mid low high + 1)
        have e2 : (own_mid low high + 1).toInt = (own_mid low high).toInt + 1 := by omega
        refine ih (high.toInt + 1 - (own_mid low high + 1).toInt).toNat (by omega) (own_mid low high + 1) high _ _ _ (by omega) (by omega) hhig (fun j u1 u2 => ?_) hB (Or.inr ⟨_, _, rfl, rfl, rfl⟩)
        rcases Nat.lt_or_eq_of_le (show j ≤ (own_mid low high).toNatClampNeg by omega) with u | u
        · have := hsort j _ u hjn; omega
        · rw [u]; exact q1
      · rw [Int64.lt_iff_toInt_lt] at q2
        have ha := c_isub (own_mid low high) 1
        have hr := rng32 (own_mid low high - 1)
        have e2 : (own_mid low high - 1).toInt = (own_mid low high).toInt - 1 := by omega
        refine ih ((own_mid low high - 1).toInt + 1 - low.toInt).toNat (by omega) low (own_mid low high - 1) _ _ _ (by omega) hlo (by omega) hA (fun j u1 u2 => ?_) (Or.inr ⟨_, _, rfl, rfl, rfl⟩)
        rcases Nat.lt_or_eq_of_le (show (own_mid low high).toNatClampNeg ≤ j by omega) with u | u
        · have := hsort _ j u (by omega); omega
        · rw [← u]; exact q2
set_option maxRecDepth 65536 in
set_option maxHeartbeats 4000000 in
theorem ef_rb0 (m : MethodId) (x0 : Addr) (x1 : Int32) (x2 : Int32) (x3 : Int64) : entryFrame m #[(.ref x0), (.int x1), (.int x2), (.long x3)] 10 = mkF m 0 #[.val (.ref x0), .val (.int x1), .val (.int x2), .val (.long x3), .second, .unset, .unset, .unset, .unset, .unset] [] := by first | (simp [entryFrame, mkF, argsToLocals, Value.category]; done) | rfl
set_option maxRecDepth 65536 in
set_option maxHeartbeats 40000000 in
theorem rb0 (l : Launch) (Z : State) (a0 : Array Value) (hw : ∀ d ∈ tables_1, d.before a0 Z = true) (a1 : Addr) (cl : Cell) (n lo hi : Nat) (g : Nat → Int64) (key : Int64) (h0 : Heap) (Ar : Arr Z h0 a1 cl .long) (hV : Vals cl n g) (hlo : lo ≤ hi) (hhi : hi ≤ n) : Con l Z (⟨"java/util/Arrays", "binarySearch0", "([JIIJ)I"⟩ : MethodName) jdk_65_method_56_code 10 (some .int) ({ frames := 0, cells := 0, slots := 0, locals := 0 } : Room) #[(.ref a1), (.int (Int32.ofNat lo)), (.int (Int32.ofNat hi)), (.long key)] h0 (fun v h L => ∃ r, Fst g lo hi key r ∧ (v = some (.int (Int32.ofNat r)) ∨ v = some (.int (-(Int32.ofNat r + 1)))) ∧ h = h0 ∧ L = []) := by
  refine w_body (Ls := #[.val (.ref a1), .val (.int (Int32.ofNat lo)), .val (.int (Int32.ofNat hi)), .val (.long key), .second, .unset, .unset, .unset, .unset, .unset]) pn_8 (fun m => ef_rb0 m a1 (Int32.ofNat lo) (Int32.ofNat hi) key) ?_
  intro p e s m below meth c T0 X0 hx hby hml hown hnm hret hlk hZ e0
  refine w_iloadN X0 hx hby n8_0 rfl ?_
  refine w_istore X0 hx hby #[.val (.ref a1), .val (.int (Int32.ofNat lo)), .val (.int (Int32.ofNat hi)), .val (.long key), .second, .val (.int (Int32.ofNat lo)), .unset, .unset, .unset, .unset] n8_1 rfl ?_
  refine w_iloadN X0 hx hby n8_3 rfl ?_
  refine w_iconst X0 hx hby (1 : Int32) n8_4 rfl ?_
  refine w_isub X0 hx hby n8_5 ?_
  refine w_istore X0 hx hby #[.val (.ref a1), .val (.int (Int32.ofNat lo)), .val (.int (Int32.ofNat hi)), .val (.long key), .second, .val (.int (Int32.ofNat lo)), .val (.int ((Int32.ofNat hi) - (1 : Int32))), .unset, .unset, .unset] n8_6 rfl ?_
  obtain ⟨-, hn4, -, -⟩ := id hV
  have o1 := own_of (n := lo) (by omega); have o2 := own_of (n := hi) (by omega); have o3 := c_isub (Int32.ofNat hi) 1; have o4 := rng32 (Int32.ofNat hi - 1); have o5 : (1 : Int32).toInt = 1 := by decide
  exact bs_loop l Z a0 hw a1 cl n lo hi g key h0 X0 hx hby hml hown hret hlk hZ e0 Ar hV hhi _ _ (hi - lo) _ _ _ _ _ (by omega) (by omega) (by omega) (fun j u1 u2 => by omega) (fun j u1 u2 => by omega) (Or.inl ⟨rfl, rfl, rfl⟩)
set_option maxRecDepth 65536 in
set_option maxHeartbeats 4000000 in
theorem ef_rb1 (m : MethodId) (x0 : Int32) (x1 : Int32) (x2 : Int32) : entryFrame m #[(.int x0), (.int x1), (.int x2)] 3 = mkF m 0 #[.val (.int x0), .val (.int x1), .val (.int x2)] [] := by first | (simp [entryFrame, mkF, argsToLocals, Value.category]; done) | rfl
set_option maxRecDepth 65536 in
set_option maxHeartbeats 40000000 in
theorem rb1 (l : Launch) (Z : State) (a0 : Array Value) (hw : ∀ d ∈ tables_1, d.before a0 Z = true) (n lo hi : Nat) (h0 : Heap) (hn4 : n ≤ 4) (hlo : lo ≤ hi) (hhi : hi ≤ n) : Con l Z (⟨"java/util/Arrays", "rangeCheck", "(III)V"⟩ : MethodName) jdk_65_method_30_code 3 none ({ frames := 0, cells := 0, slots := 0, locals := 0 } : Room) #[(.int (Int32.ofNat n)), (.int (Int32.ofNat lo)), (.int (Int32.ofNat hi))] h0 (fun v h L => v = none ∧ h = h0 ∧ L = []) := by
  refine w_body (Ls := #[.val (.int (Int32.ofNat n)), .val (.int (Int32.ofNat lo)), .val (.int (Int32.ofNat hi))]) pn_7 (fun m => ef_rb1 m (Int32.ofNat n) (Int32.ofNat lo) (Int32.ofNat hi)) ?_
  intro p e s m below meth c T0 X0 hx hby hml hown hnm hret hlk hZ e0
  refine w_iloadN X0 hx hby n7_0 rfl ?_
  refine w_iloadN X0 hx hby n7_1 rfl ?_
  refine f_icmp_le X0 hx hby n7_2 (fun q2 => ?_) (fun q2 => by rw [Int32.lt_iff_toInt_lt, own_of (by omega), own_of (by omega)] at q2; omega)
  refine w_iloadN X0 hx hby n7_46 rfl ?_
  refine f_if_ge X0 hx hby n7_47 (fun q47 => ?_) (fun q47 => by rw [Int32.lt_iff_toInt_lt, own_of (by omega)] at q47; have : (0 : Int32).toInt = 0 := (by decide); omega)
  refine w_iloadN X0 hx hby n7_59 rfl ?_
  refine w_iloadN X0 hx hby n7_60 rfl ?_
  refine f_icmp_le X0 hx hby n7_61 (fun q61 => ?_) (fun q61 => by rw [Int32.lt_iff_toInt_lt, own_of (by omega), own_of (by omega)] at q61; omega)
  refine w_retV X0 hx hby e0 hlk hret n7_73 (by decide) (by decide) ?_
  exact ⟨rfl, rfl, rfl⟩
set_option maxRecDepth 65536 in
set_option maxHeartbeats 4000000 in
theorem ef_rb2 (m : MethodId) (x0 : Addr) (x1 : Int32) (x2 : Int32) (x3 : Int64) : entryFrame m #[(.ref x0), (.int x1), (.int x2), (.long x3)] 5 = mkF m 0 #[.val (.ref x0), .val (.int x1), .val (.int x2), .val (.long x3), .second] [] := by first | (simp [entryFrame, mkF, argsToLocals, Value.category]; done) | rfl
set_option maxRecDepth 65536 in
set_option maxHeartbeats 40000000 in
theorem rb2 (l : Launch) (Z : State) (a0 : Array Value) (hw : ∀ d ∈ tables_1, d.before a0 Z = true) (a1 : Addr) (cl : Cell) (n lo hi : Nat) (g : Nat → Int64) (key : Int64) (h0 : Heap) (Ar : Arr Z h0 a1 cl .long) (hV : Vals cl n g) (hlo : lo ≤ hi) (hhi : hi ≤ n) : Con l Z (⟨"java/util/Arrays", "binarySearch", "([JIIJ)I"⟩ : MethodName) jdk_65_method_55_code 5 (some .int) ({ frames := 1, cells := 0, slots := 0, locals := 21 } : Room) #[(.ref a1), (.int (Int32.ofNat lo)), (.int (Int32.ofNat hi)), (.long key)] h0 (fun v h L => ∃ r, Fst g lo hi key r ∧ (v = some (.int (Int32.ofNat r)) ∨ v = some (.int (-(Int32.ofNat r + 1)))) ∧ h = h0 ∧ L = []) := by
  refine w_body (Ls := #[.val (.ref a1), .val (.int (Int32.ofNat lo)), .val (.int (Int32.ofNat hi)), .val (.long key), .second]) pn_6 (fun m => ef_rb2 m a1 (Int32.ofNat lo) (Int32.ofNat hi) key) ?_
  intro p e s m below meth c T0 X0 hx hby hml hown hnm hret hlk hZ e0
  refine w_aloadN X0 hx hby n6_0 rfl rfl ?_
  refine w_arraylength X0 hx hby hZ e0 Ar (z := Int32.ofNat n) (by rw [hV.1]) n6_1 ?_
  refine w_iloadN X0 hx hby n6_2 rfl ?_
  refine w_iloadN X0 hx hby n6_3 rfl ?_
  refine w_called (call_S X0 hx hby hZ hown (argsL := [(.int (Int32.ofNat n)), (.int (Int32.ofNat lo)), (.int (Int32.ofNat hi))]) (rest := []) (Wd := 0) (hw _ t_29) (hw _ t_30) (hw _ t_27) (hw _ t_31) (by decide) (rb1 l Z a0 hw n lo hi h0 hV.2.1 hlo hhi) rfl n6_4 (by rw [hml]; rfl) (lenOf pd_3734 rfl) rfl (by decide) (by decide) (by decide) (by decide) e0) fun v1 T1 L1 X1 Q1 => ?_
  obtain ⟨rfl, hh1, rfl⟩ := Q1
  show Wp p e below s _ _ _ T1 (mkF m 7 #[.val (.ref a1), .val (.int (Int32.ofNat lo)), .val (.int (Int32.ofNat hi)), .val (.long key), .second] [])
  refine w_aloadN X1 hx hby n6_7 rfl rfl ?_
  refine w_iloadN X1 hx hby n6_8 rfl ?_
  refine w_iloadN X1 hx hby n6_9 rfl ?_
  refine w_lloadN X1 hx hby n6_10 rfl ?_
  refine w_called (call_S X1 hx hby hZ hown (argsL := [(.ref a1), (.int (Int32.ofNat lo)), (.int (Int32.ofNat hi)), (.long key)]) (rest := []) (Wd := 0) (hw _ t_32) (hw _ t_33) (hw _ t_27) (hw _ t_34) (by decide) (rb0 l Z a0 hw a1 cl n lo hi g key h0 Ar hV hlo hhi) rfl n6_11 (by rw [hml]; rfl) (lenOf pd_5650 rfl) rfl (by decide) (by decide) (by decide) (by decide) hh1) fun v2 T2 L2 X2 Q2 => ?_
  obtain ⟨r, hF, hv, hh2, rfl⟩ := Q2
  obtain ⟨z, rfl, hz⟩ : ∃ z, v2 = some (.int z) ∧ (z = Int32.ofNat r ∨ z = -(Int32.ofNat r + 1)) := hv.elim (fun q => ⟨_, q, Or.inl rfl⟩) (fun q => ⟨_, q, Or.inr rfl⟩)
  show Wp p e below s _ _ _ T2 (mkF m 14 #[.val (.ref a1), .val (.int (Int32.ofNat lo)), .val (.int (Int32.ofNat hi)), .val (.long key), .second] [(.int z)])
  refine w_retI X2 hx hby hh2 hlk hret n6_14 (by decide) (by decide) ?_
  exact ⟨r, hF, hz.elim (fun q => Or.inl (by rw [q])) (fun q => Or.inr (by rw [q])), rfl, rfl⟩
set_option maxRecDepth 65536 in
set_option maxHeartbeats 4000000 in
theorem ef_rb3 (m : MethodId) (x0 : Addr) (x1 : Int32) (x2 : Int32) (x3 : Int64) : entryFrame m #[(.ref x0), (.int x1), (.int x2), (.long x3)] 6 = mkF m 0 #[.val (.ref x0), .val (.int x1), .val (.int x2), .val (.long x3), .second, .unset] [] := by first | (simp [entryFrame, mkF, argsToLocals, Value.category]; done) | rfl
set_option maxRecDepth 65536 in
set_option maxHeartbeats 40000000 in
theorem rb3 (l : Launch) (Z : State) (a0 : Array Value) (hw : ∀ d ∈ tables_1, d.before a0 Z = true) (a1 : Addr) (cl : Cell) (n lo hi : Nat) (g : Nat → Int64) (key : Int64) (h0 : Heap) (Ar : Arr Z h0 a1 cl .long) (hV : Vals cl n g) (hlo : lo ≤ hi) (hhi : hi ≤ n) : Con l Z (⟨"com/example/panoptes/panoptes/Cuts", "firstNotBefore", "([JIIJ)I"⟩ : MethodName) prog_6_method_5_code 6 (some .int) ({ frames := 2, cells := 0, slots := 0, locals := 37 } : Room) #[(.ref a1), (.int (Int32.ofNat lo)), (.int (Int32.ofNat hi)), (.long key)] h0 (fun v h L => ∃ r, Fst g lo hi key r ∧ v = some (.int (Int32.ofNat r)) ∧ h = h0 ∧ L = []) := by
  refine w_body (Ls := #[.val (.ref a1), .val (.int (Int32.ofNat lo)), .val (.int (Int32.ofNat hi)), .val (.long key), .second, .unset]) pn_5 (fun m => ef_rb3 m a1 (Int32.ofNat lo) (Int32.ofNat hi) key) ?_
  intro p e s m below meth c T0 X0 hx hby hml hown hnm hret hlk hZ e0
  refine w_aloadN X0 hx hby n5_0 rfl rfl ?_
  refine w_iloadN X0 hx hby n5_1 rfl ?_
  refine w_iloadN X0 hx hby n5_2 rfl ?_
  refine w_lloadN X0 hx hby n5_3 rfl ?_
  refine w_called (call_S X0 hx hby hZ hown (argsL := [(.ref a1), (.int (Int32.ofNat lo)), (.int (Int32.ofNat hi)), (.long key)]) (rest := []) (Wd := 0) (hw _ t_25) (hw _ t_26) (hw _ t_27) (hw _ t_28) (by decide) (rb2 l Z a0 hw a1 cl n lo hi g key h0 Ar hV hlo hhi) rfl n5_4 (by rw [hml]; rfl) (lenOf pd_5650 rfl) rfl (by decide) (by decide) (by decide) (by decide) e0) fun v1 T1 L1 X1 Q1 => ?_
  obtain ⟨r, hF, hv, hh1, rfl⟩ := Q1
  obtain ⟨z, rfl, hz⟩ : ∃ z, v1 = some (.int z) ∧ (z = Int32.ofNat r ∨ z = -(Int32.ofNat r + 1)) := hv.elim (fun q => ⟨_, q, Or.inl rfl⟩) (fun q => ⟨_, q, Or.inr rfl⟩)
  show Wp p e below s _ _ _ T1 (mkF m 7 #[.val (.ref a1), .val (.int (Int32.ofNat lo)), .val (.int (Int32.ofNat hi)), .val (.long key), .second, .unset] [(.int z)])
  refine w_istore X1 hx hby #[.val (.ref a1), .val (.int (Int32.ofNat lo)), .val (.int (Int32.ofNat hi)), .val (.long key), .second, .val (.int z)] n5_7 rfl ?_
  refine w_iload X1 hx hby n5_9 rfl ?_
  refine f_if_lt X1 hx hby n5_11 (fun q11 => ?_) (fun q11 => ?_)
  · refine w_iload X1 hx hby n5_19 rfl ?_
    refine w_ineg X1 hx hby n5_21 ?_
    refine w_iconst X1 hx hby (1 : Int32) n5_22 rfl ?_
    refine w_isub X1 hx hby n5_23 ?_
    refine w_retI X1 hx hby hh1 hlk hret n5_24 (by decide) (by decide) ?_
    obtain ⟨-, hn4, -, -⟩ := id hV; obtain ⟨f1, f2, -, -⟩ := id hF; have o1 := own_of (n := r) (by omega); have o5 : (1 : Int32).toInt = 1 := (by decide); have o6 : (0 : Int32).toInt = 0 := (by decide); have o7 := c_iadd (Int32.ofNat r) 1; have o8 := rng32 (Int32.ofNat r + 1); have o9 := c_ineg (Int32.ofNat r + 1); have o10 := rng32 (-(Int32.ofNat r + 1))
    exact ⟨r, hF, hz.elim (fun q => by rw [q, Int32.lt_iff_toInt_lt] at q11; omega) (fun q => by rw [q, Int32.neg_neg, Int32.add_sub_cancel]), rfl, rfl⟩
  · refine w_iload X1 hx hby n5_14 rfl ?_
    refine w_goto X1 hx hby n5_16 ?_
    refine w_retI X1 hx hby hh1 hlk hret n5_24 (by decide) (by decide) ?_
    obtain ⟨-, hn4, -, -⟩ := id hV; obtain ⟨f1, f2, -, -⟩ := id hF; have o1 := own_of (n := r) (by omega); have o5 : (1 : Int32).toInt = 1 := (by decide); have o6 : (0 : Int32).toInt = 0 := (by decide); have o7 := c_iadd (Int32.ofNat r) 1; have o8 := rng32 (Int32.ofNat r + 1); have o9 := c_ineg (Int32.ofNat r + 1); have o10 := rng32 (-(Int32.ofNat r + 1))
    exact ⟨r, hF, hz.elim (fun q => by rw [q]) (fun q => absurd (by rw [q, Int32.lt_iff_toInt_lt]; omega) q11), rfl, rfl⟩
set_option maxRecDepth 65536 in
set_option maxHeartbeats 4000000 in
theorem ef_rci (m : MethodId) (x0 : Addr) (x1 : Addr) (x2 : Int64) (x3 : Int64) : entryFrame m #[(.ref x0), (.ref x1), (.long x2), (.long x3)] 6 = mkF m 0 #[.val (.ref x0), .val (.ref x1), .val (.long x2), .second, .val (.long x3), .second] [] := by first | (simp [entryFrame, mkF, argsToLocals, Value.category]; done) | rfl
set_option maxRecDepth 65536 in
set_option maxHeartbeats 40000000 in
theorem rci (l : Launch) (Z : State) (a0 : Array Value) (hw : ∀ d ∈ tables_1, d.before a0 Z = true) (a1 a2 : Addr) (cl : Cell) (n : Nat) (g : Nat → Int64) (f t : Int64) (h0 : Heap) (n0 : Nat) (Z0 : n0 ≤ h0.size) (g1 : n0 ≤ a1) (E1 : Exa Z h0 a1 "com/example/panoptes/panoptes/Cuts") (F_timestamps : Fld Z h0 a1 "com/example/panoptes/panoptes/Cuts" "timestamps" "[J" .null) (F_inside : Fld Z h0 a1 "com/example/panoptes/panoptes/Cuts" "inside" "I" (.int (0 : Int32))) (F_intervals : Fld Z h0 a1 "com/example/panoptes/panoptes/Cuts" "intervals" "I" (.int (0 : Int32))) (F_from : Fld Z h0 a1 "com/example/panoptes/panoptes/Cuts" "from" "J" (.long (0 : Int64))) (F_to : Fld Z h0 a1 "com/example/panoptes/panoptes/Cuts" "to" "J" (.long (0 : Int64))) (A2 : Arr Z h0 a2 cl .long) (ne21 : a2 ≠ a1) (hV : Vals cl n g) : Con l Z (⟨"com/example/panoptes/panoptes/Cuts", "<init>", "([JJJ)V"⟩ : MethodName) prog_6_method_1_code 6 none ({ frames := 3, cells := 0, slots := 0, locals := 55 } : Room) #[(.ref a1), (.ref a2), (.long f), (.long t)] h0 (fun v h L => v = none ∧ Fr n0 L ∧ Keep h0 h [a1] ∧ Exa Z h a1 "com/example/panoptes/panoptes/Cuts" ∧ ∃ r1 r2 : Nat, Fst g 0 n (f + 1) r1 ∧ Fst g r1 n t r2 ∧ Fld Z h a1 "com/example/panoptes/panoptes/Cuts" "timestamps" "[J" (.ref a2) ∧ Fld Z h a1 "com/example/panoptes/panoptes/Cuts" "inside" "I" (.int (Int32.ofNat r1)) ∧ Fld Z h a1 "com/example/panoptes/panoptes/Cuts" "intervals" "I" (.int (((Int32.ofNat r2) - (Int32.ofNat r1)) + (1 : Int32))) ∧ Fld Z h a1 "com/example/panoptes/panoptes/Cuts" "from" "J" (.long f) ∧ Fld Z h a1 "com/example/panoptes/panoptes/Cuts" "to" "J" (.long t)) := by
  refine w_body (Ls := #[.val (.ref a1), .val (.ref a2), .val (.long f), .second, .val (.long t), .second]) pn_3 (fun m => ef_rci m a1 a2 f t) ?_
  intro p e s m below meth c T0 X0 hx hby hml hown hnm hret hlk hZ e0
  refine w_aloadN X0 hx hby n3_0 rfl rfl ?_
  refine w_initO X0 hx hby hZ hown (by rw [hml]; rfl) (Wd := 0) (hw _ t_17) (hw _ t_18) (hw _ t_19) e0 n3_1 (by decide) rfl (by decide) fun T1 X1 e1 => ?_
  refine w_aloadN X1 hx hby n3_4 rfl rfl ?_
  refine w_aloadN X1 hx hby n3_5 rfl rfl ?_
  refine w_putFN X1 hx hby hZ hown (hw _ t_20) Via.refl e1 F_timestamps E1 (Or.inr ⟨(hw _ t_21), rfl, hnm⟩) (hw _ t_12) (ty := (.array .long)) (by decide) rfl rfl n3_6 fun T2 h2 X2 e2 W2 => ?_
  have P2 := F_timestamps.same W2
  have N2 := Fr.snoc X2 (Fr.nil n0) g1
  have z3 : h0.size ≤ h2.size := Nat.le_trans (Nat.le_refl h0.size) (Keep.of_wr W2).1
  have k3 : Keep h0 h2 [a1] := (Keep.refl h0 [a1]).wr W2 (Or.inl (List.mem_of_getElem? (i := 0) rfl))
  refine w_aloadN X2 hx hby n3_9 rfl rfl ?_
  refine w_aloadN X2 hx hby n3_10 rfl rfl ?_
  refine w_iconst X2 hx hby (0 : Int32) n3_11 rfl ?_
  refine w_aloadN X2 hx hby n3_12 rfl rfl ?_
  have f4 := (A2.other W2 ne21)
  refine w_arraylength X2 hx hby hZ e2 f4 (z := Int32.ofNat n) (by rw [hV.1]) n3_13 ?_
  refine w_lloadN X2 hx hby n3_14 rfl ?_
  refine w_lconst X2 hx hby (1 : Int64) n3_15 rfl ?_
  refine w_ladd X2 hx hby n3_16 ?_
  refine w_called (call_S X2 hx hby hZ hown (argsL := [(.ref a2), (.int (0 : Int32)), (.int (Int32.ofNat n)), (.long (f + (1 : Int64)))]) (rest := [(.ref a1)]) (Wd := 1) (hw _ t_22) (hw _ t_23) (hw _ t_13) (hw _ t_24) (by decide) (rb3 l Z a0 hw a2 cl n 0 n g (f + (1 : Int64)) h2 f4 hV (Nat.zero_le _) (Nat.le_refl _)) rfl n3_17 (by rw [hml]; rfl) (lenOf pd_5650 rfl) rfl (by decide) (by decide) (by decide) (by decide) e2) fun v5 T5 L5 X5 Q5 => ?_
  obtain ⟨r1, hF1, rfl, hh5, rfl⟩ := Q5
  rw [List.append_nil] at X5
  show Wp p e below s _ _ _ T5 (mkF m 20 #[.val (.ref a1), .val (.ref a2), .val (.long f), .second, .val (.long t), .second] [(.int (Int32.ofNat r1)), (.ref a1)])
  have f6 := (F_inside.other W2 (Or.inr (slot_ne (Or.inr (hw _ t_36)) (Or.inr (hw _ t_21)) (by decide) (t := .int) (t' := (.array .long)) (by decide) (by decide))))
  have f7 := (E1.wr W2)
  refine w_putFN X5 hx hby hZ hown (hw _ t_35) Via.refl hh5 f6 f7 (Or.inr ⟨(hw _ t_36), rfl, hnm⟩) (hw _ t_12) (ty := .int) (by decide) rfl rfl n3_20 fun T8 h8 X8 e8 W8 => ?_
  have P8 := f6.same W8
  have N8 := Fr.snoc X8 N2 g1
  have z9 : h0.size ≤ h8.size := Nat.le_trans z3 (Keep.of_wr W8).1
  have k9 : Keep h0 h8 [a1] := k3.wr W8 (Or.inl (List.mem_of_getElem? (i := 0) rfl))
  refine w_aloadN X8 hx hby n3_23 rfl rfl ?_
  refine w_aloadN X8 hx hby n3_24 rfl rfl ?_
  refine w_aloadN X8 hx hby n3_25 rfl rfl ?_
  refine w_getF X8 hx hby hZ hown (host := "") (Or.inl (hw _ t_35)) Via.refl e8 P8 n3_26 fun T10 X10 e10 => ?_
  refine w_aloadN X10 hx hby n3_29 rfl rfl ?_
  have f11 := (f4.other W8 ne21)
  refine w_arraylength X10 hx hby hZ e10 f11 (z := Int32.ofNat n) (by rw [hV.1]) n3_30 ?_
  refine w_lload X10 hx hby n3_31 rfl ?_
  refine w_called (call_S X10 hx hby hZ hown (argsL := [(.ref a2), (.int (Int32.ofNat r1)), (.int (Int32.ofNat n)), (.long t)]) (rest := [(.ref a1)]) (Wd := 1) (hw _ t_22) (hw _ t_23) (hw _ t_13) (hw _ t_24) (by decide) (rb3 l Z a0 hw a2 cl n r1 n g t h8 f11 hV hF1.2.1 (Nat.le_refl _)) rfl n3_33 (by rw [hml]; rfl) (lenOf pd_5650 rfl) rfl (by decide) (by decide) (by decide) (by decide) e10) fun v12 T12 L12 X12 Q12 => ?_
  obtain ⟨r2, hF2, rfl, hh12, rfl⟩ := Q12
  rw [List.append_nil] at X12
  show Wp p e below s _ _ _ T12 (mkF m 36 #[.val (.ref a1), .val (.ref a2), .val (.long f), .second, .val (.long t), .second] [(.int (Int32.ofNat r2)), (.ref a1)])
  refine w_aloadN X12 hx hby n3_36 rfl rfl ?_
  refine w_getF X12 hx hby hZ hown (host := "") (Or.inl (hw _ t_35)) Via.refl hh12 P8 n3_37 fun T13 X13 e13 => ?_
  refine w_isub X13 hx hby n3_40 ?_
  refine w_iconst X13 hx hby (1 : Int32) n3_41 rfl ?_
  refine w_iadd X13 hx hby n3_42 ?_
  have f14 := ((F_intervals.other W2 (Or.inr (slot_ne (Or.inr (hw _ t_38)) (Or.inr (hw _ t_21)) (by decide) (t := .int) (t' := (.array .long)) (by decide) (by decide)))).other W8 (Or.inr (slot_ne (Or.inr (hw _ t_38)) (Or.inr (hw _ t_36)) (by decide) (t := .int) (t' := .int) (by decide) (by decide))))
  have f15 := (f7.wr W8)
  refine w_putFN X13 hx hby hZ hown (hw _ t_37) Via.refl e13 f14 f15 (Or.inr ⟨(hw _ t_38), rfl, hnm⟩) (hw _ t_12) (ty := .int) (by decide) rfl rfl n3_43 fun T16 h16 X16 e16 W16 => ?_
  have P16 := f14.same W16
  have N16 := Fr.snoc X16 N8 g1
  have z17 : h0.size ≤ h16.size := Nat.le_trans z9 (Keep.of_wr W16).1
  have k17 : Keep h0 h16 [a1] := k9.wr W16 (Or.inl (List.mem_of_getElem? (i := 0) rfl))
  refine w_aloadN X16 hx hby n3_46 rfl rfl ?_
  refine w_lloadN X16 hx hby n3_47 rfl ?_
  have f18 := (((F_from.other W2 (Or.inr (slot_ne (Or.inr (hw _ t_40)) (Or.inr (hw _ t_21)) (by decide) (t := .long) (t' := (.array .long)) (by decide) (by decide)))).other W8 (Or.inr (slot_ne (Or.inr (hw _ t_40)) (Or.inr (hw _ t_36)) (by decide) (t := .long) (t' := .int) (by decide) (by decide)))).other W16 (Or.inr (slot_ne (Or.inr (hw _ t_40)) (Or.inr (hw _ t_38)) (by decide) (t := .long) (t' := .int) (by decide) (by decide))))
  have f19 := (f15.wr W16)
  refine w_putFN X16 hx hby hZ hown (hw _ t_39) Via.refl e16 f18 f19 (Or.inr ⟨(hw _ t_40), rfl, hnm⟩) (hw _ t_12) (ty := .long) (by decide) rfl rfl n3_48 fun T20 h20 X20 e20 W20 => ?_
  have P20 := f18.same W20
  have N20 := Fr.snoc X20 N16 g1
  have z21 : h0.size ≤ h20.size := Nat.le_trans z17 (Keep.of_wr W20).1
  have k21 : Keep h0 h20 [a1] := k17.wr W20 (Or.inl (List.mem_of_getElem? (i := 0) rfl))
  refine w_aloadN X20 hx hby n3_51 rfl rfl ?_
  refine w_lload X20 hx hby n3_52 rfl ?_
  have f22 := ((((F_to.other W2 (Or.inr (slot_ne (Or.inr (hw _ t_42)) (Or.inr (hw _ t_21)) (by decide) (t := .long) (t' := (.array .long)) (by decide) (by decide)))).other W8 (Or.inr (slot_ne (Or.inr (hw _ t_42)) (Or.inr (hw _ t_36)) (by decide) (t := .long) (t' := .int) (by decide) (by decide)))).other W16 (Or.inr (slot_ne (Or.inr (hw _ t_42)) (Or.inr (hw _ t_38)) (by decide) (t := .long) (t' := .int) (by decide) (by decide)))).other W20 (Or.inr (slot_ne (Or.inr (hw _ t_42)) (Or.inr (hw _ t_40)) (by decide) (t := .long) (t' := .long) (by decide) (by decide))))
  have f23 := (f19.wr W20)
  refine w_putFN X20 hx hby hZ hown (hw _ t_41) Via.refl e20 f22 f23 (Or.inr ⟨(hw _ t_42), rfl, hnm⟩) (hw _ t_12) (ty := .long) (by decide) rfl rfl n3_54 fun T24 h24 X24 e24 W24 => ?_
  have P24 := f22.same W24
  have N24 := Fr.snoc X24 N20 g1
  have z25 : h0.size ≤ h24.size := Nat.le_trans z21 (Keep.of_wr W24).1
  have k25 : Keep h0 h24 [a1] := k21.wr W24 (Or.inl (List.mem_of_getElem? (i := 0) rfl))
  refine w_retV X24 hx hby e24 hlk hret n3_57 (by decide) (by decide) ?_
  have f26 := (f23.wr W24)
  have f27 := ((((P2.other W8 (Or.inr (slot_ne (Or.inr (hw _ t_21)) (Or.inr (hw _ t_36)) (by decide) (t := (.array .long)) (t' := .int) (by decide) (by decide)))).other W16 (Or.inr (slot_ne (Or.inr (hw _ t_21)) (Or.inr (hw _ t_38)) (by decide) (t := (.array .long)) (t' := .int) (by decide) (by decide)))).other W20 (Or.inr (slot_ne (Or.inr (hw _ t_21)) (Or.inr (hw _ t_40)) (by decide) (t := (.array .long)) (t' := .long) (by decide) (by decide)))).other W24 (Or.inr (slot_ne (Or.inr (hw _ t_21)) (Or.inr (hw _ t_42)) (by decide) (t := (.array .long)) (t' := .long) (by decide) (by decide))))
  have f28 := (((P8.other W16 (Or.inr (slot_ne (Or.inr (hw _ t_36)) (Or.inr (hw _ t_38)) (by decide) (t := .int) (t' := .int) (by decide) (by decide)))).other W20 (Or.inr (slot_ne (Or.inr (hw _ t_36)) (Or.inr (hw _ t_40)) (by decide) (t := .int) (t' := .long) (by decide) (by decide)))).other W24 (Or.inr (slot_ne (Or.inr (hw _ t_36)) (Or.inr (hw _ t_42)) (by decide) (t := .int) (t' := .long) (by decide) (by decide))))
  have f29 := ((P16.other W20 (Or.inr (slot_ne (Or.inr (hw _ t_38)) (Or.inr (hw _ t_40)) (by decide) (t := .int) (t' := .long) (by decide) (by decide)))).other W24 (Or.inr (slot_ne (Or.inr (hw _ t_38)) (Or.inr (hw _ t_42)) (by decide) (t := .int) (t' := .long) (by decide) (by decide))))
  have f30 := (P20.other W24 (Or.inr (slot_ne (Or.inr (hw _ t_40)) (Or.inr (hw _ t_42)) (by decide) (t := .long) (t' := .long) (by decide) (by decide))))
  exact ⟨rfl, N24, k25, f26, r1, r2, hF1, hF2, f27, f28, f29, f30, P24⟩
set_option maxRecDepth 65536 in
set_option maxHeartbeats 4000000 in
theorem ef_rle (m : MethodId) (x0 : Int64) (x1 : Int64) : entryFrame m #[(.long x0), (.long x1)] 4 = mkF m 0 #[.val (.long x0), .second, .val (.long x1), .second] [] := by first | (simp [entryFrame, mkF, argsToLocals, Value.category]; done) | rfl
set_option maxRecDepth 65536 in
set_option maxHeartbeats 40000000 in
theorem rle (l : Launch) (Z : State) (a0 : Array Value) (hw : ∀ d ∈ tables_1, d.before a0 Z = true) (y1 y2 : Int64) (h0 : Heap) : Con l Z (⟨"com/example/panoptes/panoptes/CutsSecondPinLaw", "le", "(JJ)I"⟩ : MethodName) method_2_code 4 (some .int) ({ frames := 0, cells := 0, slots := 0, locals := 0 } : Room) #[(.long y1), (.long y2)] h0 (fun v h L => v = some (.int (own_le y1 y2)) ∧ h = h0 ∧ L = []) := by
  refine w_body (Ls := #[.val (.long y1), .second, .val (.long y2), .second]) pn_1 (fun m => ef_rle m y1 y2) ?_
  intro p e s m below meth c T0 X0 hx hby hml hown hnm hret hlk hZ e0
  refine w_lloadN X0 hx hby n1_0 rfl ?_
  refine w_lloadN X0 hx hby n1_1 rfl ?_
  refine f_lcmp_gt X0 hx hby n1_2 n1_3 (fun q2 => ?_) (fun q2 => ?_)
  · refine w_iconst X0 hx hby (0 : Int32) n1_10 rfl ?_
    refine w_retI X0 hx hby e0 hlk hret n1_11 (by decide) (by decide) ?_
    exact ⟨congrArg (fun q => some (Value.int q)) (by first | (unfold own_le; rw [if_pos q2] <;> rfl) | simp [own_le, own_nar1, own_nar0, q2]), rfl, rfl⟩
  · refine w_iconst X0 hx hby (1 : Int32) n1_6 rfl ?_
    refine w_goto X0 hx hby n1_7 ?_
    refine w_retI X0 hx hby e0 hlk hret n1_11 (by decide) (by decide) ?_
    exact ⟨congrArg (fun q => some (Value.int q)) (by first | (unfold own_le; rw [if_neg q2] <;> rfl) | simp [own_le, own_nar1, own_nar0, q2]), rfl, rfl⟩
set_option maxRecDepth 65536 in
set_option maxHeartbeats 4000000 in
theorem ef_rlt (m : MethodId) (x0 : Int64) (x1 : Int64) : entryFrame m #[(.long x0), (.long x1)] 4 = mkF m 0 #[.val (.long x0), .second, .val (.long x1), .second] [] := by first | (simp [entryFrame, mkF, argsToLocals, Value.category]; done) | rfl
set_option maxRecDepth 65536 in
set_option maxHeartbeats 40000000 in
theorem rlt (l : Launch) (Z : State) (a0 : Array Value) (hw : ∀ d ∈ tables_1, d.before a0 Z = true) (y1 y2 : Int64) (h0 : Heap) : Con l Z (⟨"com/example/panoptes/panoptes/CutsSecondPinLaw", "lt", "(JJ)I"⟩ : MethodName) method_3_code 4 (some .int) ({ frames := 0, cells := 0, slots := 0, locals := 0 } : Room) #[(.long y1), (.long y2)] h0 (fun v h L => v = some (.int (own_lt y1 y2)) ∧ h = h0 ∧ L = []) := by
  refine w_body (Ls := #[.val (.long y1), .second, .val (.long y2), .second]) pn_2 (fun m => ef_rlt m y1 y2) ?_
  intro p e s m below meth c T0 X0 hx hby hml hown hnm hret hlk hZ e0
  refine w_lloadN X0 hx hby n2_0 rfl ?_
  refine w_lloadN X0 hx hby n2_1 rfl ?_
  refine f_lcmp_ge X0 hx hby n2_2 n2_3 (fun q2 => ?_) (fun q2 => ?_)
  · refine w_iconst X0 hx hby (0 : Int32) n2_10 rfl ?_
    refine w_retI X0 hx hby e0 hlk hret n2_11 (by decide) (by decide) ?_
    exact ⟨congrArg (fun q => some (Value.int q)) (by first | (unfold own_lt; rw [if_neg q2] <;> rfl) | simp [own_lt, own_nar1, own_nar0, q2]), rfl, rfl⟩
  · refine w_iconst X0 hx hby (1 : Int32) n2_6 rfl ?_
    refine w_goto X0 hx hby n2_7 ?_
    refine w_retI X0 hx hby e0 hlk hret n2_11 (by decide) (by decide) ?_
    exact ⟨congrArg (fun q => some (Value.int q)) (by first | (unfold own_lt; rw [if_pos q2] <;> rfl) | simp [own_lt, own_nar1, own_nar0, q2]), rfl, rfl⟩
set_option maxRecDepth 65536 in
set_option maxHeartbeats 4000000 in
theorem ef_rpk (m : MethodId) (x0 : Int64) (x1 : Int64) (x2 : Int64) (x3 : Int64) (x4 : Int32) : entryFrame m #[(.long x0), (.long x1), (.long x2), (.long x3), (.int x4)] 9 = mkF m 0 #[.val (.long x0), .second, .val (.long x1), .second, .val (.long x2), .second, .val (.long x3), .second, .val (.int x4)] [] := by first | (simp [entryFrame, mkF, argsToLocals, Value.category]; done) | rfl
set_option maxRecDepth 65536 in
set_option maxHeartbeats 40000000 in
theorem rpk (l : Launch) (Z : State) (a0 : Array Value) (hw : ∀ d ∈ tables_1, d.before a0 Z = true) (y0 y1 y2 y3 : Int64) (i1 : Int32) (h0 : Heap) : Con l Z (⟨"com/example/panoptes/panoptes/CutsSecondPinLaw", "pick", "(JJJJI)J"⟩ : MethodName) method_4_code 9 (some .long) ({ frames := 0, cells := 0, slots := 0, locals := 0 } : Room) #[(.long y0), (.long y1), (.long y2), (.long y3), (.int i1)] h0 (fun v h L => v = some (.long (own_pk y0 y1 y2 y3 i1)) ∧ h = h0 ∧ L = []) := by
  refine w_body (Ls := #[.val (.long y0), .second, .val (.long y1), .second, .val (.long y2), .second, .val (.long y3), .second, .val (.int i1)]) pn_11 (fun m => ef_rpk m y0 y1 y2 y3 i1) ?_
  intro p e s m below meth c T0 X0 hx hby hml hown hnm hret hlk hZ e0
  refine w_iload X0 hx hby n11_0 rfl ?_
  refine f_if_ne X0 hx hby n11_2 (fun q2 => ?_) (fun q2 => ?_)
  · refine w_iload X0 hx hby n11_7 rfl ?_
    refine w_iconst X0 hx hby (1 : Int32) n11_9 rfl ?_
    refine f_icmp_ne X0 hx hby n11_10 (fun q10 => ?_) (fun q10 => ?_)
    · refine w_iload X0 hx hby n11_15 rfl ?_
      refine w_iconst X0 hx hby (2 : Int32) n11_17 rfl ?_
      refine f_icmp_ne X0 hx hby n11_18 (fun q18 => ?_) (fun q18 => ?_)
      · refine w_lload X0 hx hby n11_24 rfl ?_
        refine w_retJ X0 hx hby e0 hlk hret n11_26 (by decide) (by decide) ?_
        exact ⟨congrArg (fun q => some (Value.long q)) (by first | (unfold own_pk; rw [if_neg q2, if_neg q10, if_neg q18] <;> rfl) | simp [own_pk, own_nar1, own_nar0, q2, q10, q18]), rfl, rfl⟩
      · refine w_lload X0 hx hby n11_21 rfl ?_
        refine w_retJ X0 hx hby e0 hlk hret n11_23 (by decide) (by decide) ?_
        exact ⟨congrArg (fun q => some (Value.long q)) (by first | (unfold own_pk; rw [if_neg q2, if_neg q10, if_pos q18] <;> rfl) | simp [own_pk, own_nar1, own_nar0, q2, q10, q18]), rfl, rfl⟩
    · refine w_lloadN X0 hx hby n11_13 rfl ?_
      refine w_retJ X0 hx hby e0 hlk hret n11_14 (by decide) (by decide) ?_
      exact ⟨congrArg (fun q => some (Value.long q)) (by first | (unfold own_pk; rw [if_neg q2, if_pos q10] <;> rfl) | simp [own_pk, own_nar1, own_nar0, q2, q10]), rfl, rfl⟩
  · refine w_lloadN X0 hx hby n11_5 rfl ?_
    refine w_retJ X0 hx hby e0 hlk hret n11_6 (by decide) (by decide) ?_
    exact ⟨congrArg (fun q => some (Value.long q)) (by first | (unfold own_pk; rw [if_pos q2] <;> rfl) | simp [own_pk, own_nar1, own_nar0, q2]), rfl, rfl⟩
set_option maxRecDepth 65536 in
set_option maxHeartbeats 4000000 in
theorem ef_riv (m : MethodId) (x0 : Addr) : entryFrame m #[(.ref x0)] 1 = mkF m 0 #[.val (.ref x0)] [] := by first | (simp [entryFrame, mkF, argsToLocals, Value.category]; done) | rfl
set_option maxRecDepth 65536 in
set_option maxHeartbeats 40000000 in
theorem riv (l : Launch) (Z : State) (a0 : Array Value) (hw : ∀ d ∈ tables_1, d.before a0 Z = true) (a1 : Addr) (x1 : Int32) (h0 : Heap) (F1 : Fld Z h0 a1 "com/example/panoptes/panoptes/Cuts" "intervals" "I" (.int x1)) : Con l Z (⟨"com/example/panoptes/panoptes/Cuts", "intervals", "()I"⟩ : MethodName) prog_6_method_2_code 1 (some .int) ({ frames := 0, cells := 0, slots := 0, locals := 0 } : Room) #[(.ref a1)] h0 (fun v h L => v = some (.int x1) ∧ h = h0 ∧ L = []) := by
  refine w_body (Ls := #[.val (.ref a1)]) pn_9 (fun m => ef_riv m a1) ?_
  intro p e s m below meth c T0 X0 hx hby hml hown hnm hret hlk hZ e0
  refine w_aloadN X0 hx hby n9_0 rfl rfl ?_
  refine w_getF X0 hx hby hZ hown (host := "") (Or.inl (hw _ t_37)) Via.refl e0 F1 n9_1 fun T1 X1 e1 => ?_
  refine w_retI X1 hx hby e1 hlk hret n9_4 (by decide) (by decide) ?_
  exact ⟨rfl, rfl, rfl⟩
set_option maxRecDepth 65536 in
set_option maxHeartbeats 4000000 in
theorem ef_rse (m : MethodId) (x0 : Addr) (x1 : Int32) : entryFrame m #[(.ref x0), (.int x1)] 4 = mkF m 0 #[.val (.ref x0), .val (.int x1), .unset, .unset] [] := by first | (simp [entryFrame, mkF, argsToLocals, Value.category]; done) | rfl
set_option maxRecDepth 65536 in
set_option maxHeartbeats 40000000 in
theorem rse (l : Launch) (Z : State) (a0 : Array Value) (hw : ∀ d ∈ tables_1, d.before a0 Z = true) (a1 a2 : Addr) (cl : Cell) (f t y : Int64) (c1 : Int32) (r1 r2 : Nat) (h0 : Heap) (F_timestamps : Fld Z h0 a1 "com/example/panoptes/panoptes/Cuts" "timestamps" "[J" (.ref a2)) (F_inside : Fld Z h0 a1 "com/example/panoptes/panoptes/Cuts" "inside" "I" (.int (Int32.ofNat r1))) (F_intervals : Fld Z h0 a1 "com/example/panoptes/panoptes/Cuts" "intervals" "I" (.int (((Int32.ofNat r2) - (Int32.ofNat r1)) + (1 : Int32)))) (F_from : Fld Z h0 a1 "com/example/panoptes/panoptes/Cuts" "from" "J" (.long f)) (F_to : Fld Z h0 a1 "com/example/panoptes/panoptes/Cuts" "to" "J" (.long t)) (A2 : Arr Z h0 a2 cl .long) (hat : ¬ c1 = 0 → ¬ c1 = (((Int32.ofNat r2) - (Int32.ofNat r1)) + (1 : Int32)) → ¬ (((Int32.ofNat r1) + c1) - (1 : Int32) < 0 ∨ cl.slots.size ≤ (((Int32.ofNat r1) + c1) - (1 : Int32)).toNatClampNeg) ∧ cl.slots[(((Int32.ofNat r1) + c1) - (1 : Int32)).toNatClampNeg]? = some (.long y)) : Con l Z (⟨"com/example/panoptes/panoptes/Cuts", "second", "(I)J"⟩ : MethodName) prog_6_method_3_code 4 (some .long) ({ frames := 0, cells := 0, slots := 0, locals := 0 } : Room) #[(.ref a1), (.int c1)] h0 (fun v h L => v = some (.long (own_se f t y c1 (((Int32.ofNat r2) - (Int32.ofNat r1)) + (1 : Int32)))) ∧ h = h0 ∧ L = []) := by
  refine w_body (Ls := #[.val (.ref a1), .val (.int c1), .unset, .unset]) pn_10 (fun m => ef_rse m a1 c1) ?_
  intro p e s m below meth c T0 X0 hx hby hml hown hnm hret hlk hZ e0
  refine w_iloadN X0 hx hby n10_0 rfl ?_
  refine f_if_ne X0 hx hby n10_1 (fun q1 => ?_) (fun q1 => ?_)
  · refine w_iloadN X0 hx hby n10_12 rfl ?_
    refine w_aloadN X0 hx hby n10_13 rfl rfl ?_
    refine w_getF X0 hx hby hZ hown (host := "") (Or.inl (hw _ t_37)) Via.refl e0 F_intervals n10_14 fun T1 X1 e1 => ?_
    refine f_icmp_ne X1 hx hby n10_17 (fun q17 => ?_) (fun q17 => ?_)
    · refine w_aloadN X1 hx hby n10_28 rfl rfl ?_
      refine w_getF X1 hx hby hZ hown (host := "") (Or.inl (hw _ t_20)) Via.refl e1 F_timestamps n10_29 fun T2 X2 e2 => ?_
      refine w_aloadN X2 hx hby n10_32 rfl rfl ?_
      refine w_getF X2 hx hby hZ hown (host := "") (Or.inl (hw _ t_35)) Via.refl e2 F_inside n10_33 fun T3 X3 e3 => ?_
      refine w_iloadN X3 hx hby n10_36 rfl ?_
      refine w_iadd X3 hx hby n10_37 ?_
      refine w_iconst X3 hx hby (1 : Int32) n10_38 rfl ?_
      refine w_isub X3 hx hby n10_39 ?_
      refine w_laload X3 hx hby hZ e3 A2 (hat q1 q17).1 (hat q1 q17).2 n10_40 ?_
      refine w_lstoreN X3 hx hby #[.val (.ref a1), .val (.int c1), .val (.long y), .second] n10_41 rfl ?_
      refine w_lloadN X3 hx hby n10_42 rfl ?_
      refine w_retJ X3 hx hby e3 hlk hret n10_43 (by decide) (by decide) ?_
      exact ⟨congrArg (fun q => some (Value.long q)) (by first | (unfold own_se; rw [if_neg q1, if_neg q17] <;> rfl) | simp [own_se, own_nar1, own_nar0, q1, q17]), rfl, rfl⟩
    · refine w_aloadN X1 hx hby n10_20 rfl rfl ?_
      refine w_getF X1 hx hby hZ hown (host := "") (Or.inl (hw _ t_41)) Via.refl e1 F_to n10_21 fun T4 X4 e4 => ?_
      refine w_lstoreN X4 hx hby #[.val (.ref a1), .val (.int c1), .val (.long t), .second] n10_24 rfl ?_
      refine w_goto X4 hx hby n10_25 ?_
      refine w_lloadN X4 hx hby n10_42 rfl ?_
      refine w_retJ X4 hx hby e4 hlk hret n10_43 (by decide) (by decide) ?_
      exact ⟨congrArg (fun q => some (Value.long q)) (by first | (unfold own_se; rw [if_neg q1, if_pos q17] <;> rfl) | simp [own_se, own_nar1, own_nar0, q1, q17]), rfl, rfl⟩
  · refine w_aloadN X0 hx hby n10_4 rfl rfl ?_
    refine w_getF X0 hx hby hZ hown (host := "") (Or.inl (hw _ t_39)) Via.refl e0 F_from n10_5 fun T5 X5 e5 => ?_
    refine w_lstoreN X5 hx hby #[.val (.ref a1), .val (.int c1), .val (.long f), .second] n10_8 rfl ?_
    refine w_goto X5 hx hby n10_9 ?_
    refine w_lloadN X5 hx hby n10_42 rfl ?_
    refine w_retJ X5 hx hby e5 hlk hret n10_43 (by decide) (by decide) ?_
    exact ⟨congrArg (fun q => some (Value.long q)) (by first | (unfold own_se; rw [if_pos q1] <;> rfl) | simp [own_se, own_nar1, own_nar0, q1]), rfl, rfl⟩
set_option maxRecDepth 65536 in
set_option maxHeartbeats 40000000 in
theorem tail88 (l : Launch) (Z : State) (a0 : Array Value) (hw : ∀ d ∈ tables_1, d.before a0 Z = true) (x0 t0 t1 t2 t3 f u : Int64) (p2 p3 p4 p5 : Int32) (h0 : Heap) {p : Program} {e : Env} {s : State} {m : MethodId} {args : Array Value} {below : List Frame} {meth : Method} {c : Code} {T0 : State} (X0 : Stand p l e room_1 s m args below meth c T0 [] 0 0) (hx : p.tables.exec = Jvm.exec) (hby : c.code = code) (hml : c.maxLocals = 26) (hown : s.vm.findClass "com/example/panoptes/panoptes/CutsSecondPinLaw" = some m.cls) (hret : meth.sig.returnType = ret) (hlk : meth.locks = false) (hZ : Z.Warmed39 s.vm) (e0 : T0.heap = h0) (H1 : t0.toInt < t1.toInt) (H2 : t1.toInt < t2.toInt) (H3 : t2.toInt < t3.toInt) (H4 : (f + 1).toInt = f.toInt + 1) (H5 : f.toInt < u.toInt) : Wp p e below s room_1.cells room_1.slots (fun v h L => v = some (.int 1) ∧ Fr h0.size L) T0 (mkF m 88 #[.val (.long x0), .second, .val (.int p2), .val (.int p3), .val (.int p4), .val (.int p5), .val (.long t0), .second, .val (.long t1), .second, .val (.long t2), .second, .val (.long t3), .second, .val (.long f), .second, .val (.long u), .second, .unset, .unset, .unset, .unset, .unset, .unset, .unset, .unset] []) := by
  refine w_iconst X0 hx hby (4 : Int32) n0_88 rfl ?_
  refine w_newP X0 hx hby hZ (aty := .long) (hw _ t_3) e0 n0_89 (by decide) 4 (by decide) (by decide) (by decide) (by decide) fun T1 h1 b1 k1 g1 X1 e1 E1 A1 => ?_
  have old_b1 : h0.size ≤ b1 := Nat.le_trans (Nat.le_refl h0.size) (Nat.le_of_eq g1.symm)
  have z2 : h0.size ≤ h1.size := Nat.le_trans (Nat.le_refl h0.size) E1.1
  have V1 : Arv Z h1 b1 k1 .long (4 : Int32) [(.long (0 : Int64)), (.long (0 : Int64)), (.long (0 : Int64)), (.long (0 : Int64))] (.long (0 : Int64)) := (Arv.new A1 (by decide)).pad (pad_rep [] (.long (0 : Int64)) 4)
  refine w_dup X1 hx hby n0_91 rfl ?_
  refine w_iconst X1 hx hby (0 : Int32) n0_92 rfl ?_
  refine w_lload X1 hx hby n0_93 rfl ?_
  obtain ⟨cl3, Ar3, qk3, Sz3, Nn3, Ha3, Gf3⟩ := id V1
  refine w_stJ X1 hx hby hZ e1 Ar3 (j := (0 : Int32)) (inb_of Sz3 ⟨by decide, by decide⟩) n0_95 fun T3 h3 X3 e3 W3 => ?_
  have V3 : Arv Z h3 b1 k1 .long (4 : Int32) [(.long t0), (.long (0 : Int64)), (.long (0 : Int64)), (.long (0 : Int64))] (.long (0 : Int64)) := Arv.set Ar3 qk3 Sz3 Nn3 Ha3 Gf3 rfl W3 0 rfl (Nat.le_of_ble_eq_true rfl)
  have N3 := Fr.snoc X3 (Fr.nil h0.size) old_b1
  have z4 : h0.size ≤ h3.size := Nat.le_trans z2 (Keep.of_wr W3).1
  refine w_dup X3 hx hby n0_96 rfl ?_
  refine w_iconst X3 hx hby (1 : Int32) n0_97 rfl ?_
  refine w_lload X3 hx hby n0_98 rfl ?_
  obtain ⟨cl5, Ar5, qk5, Sz5, Nn5, Ha5, Gf5⟩ := id V3
  refine w_stJ X3 hx hby hZ e3 Ar5 (j := (1 : Int32)) (inb_of Sz5 ⟨by decide, by decide⟩) n0_100 fun T5 h5 X5 e5 W5 => ?_
  have V5 : Arv Z h5 b1 k1 .long (4 : Int32) [(.long t0), (.long t1), (.long (0 : Int64)), (.long (0 : Int64))] (.long (0 : Int64)) := Arv.set Ar5 qk5 Sz5 Nn5 Ha5 Gf5 rfl W5 1 rfl (Nat.le_of_ble_eq_true rfl)
  have N5 := Fr.snoc X5 N3 old_b1
  have z6 : h0.size ≤ h5.size := Nat.le_trans z4 (Keep.of_wr W5).1
  refine w_dup X5 hx hby n0_101 rfl ?_
  refine w_iconst X5 hx hby (2 : Int32) n0_102 rfl ?_
  refine w_lload X5 hx hby n0_103 rfl ?_
  obtain ⟨cl7, Ar7, qk7, Sz7, Nn7, Ha7, Gf7⟩ := id V5
  refine w_stJ X5 hx hby hZ e5 Ar7 (j := (2 : Int32)) (inb_of Sz7 ⟨by decide, by decide⟩) n0_105 fun T7 h7 X7 e7 W7 => ?_
  have V7 : Arv Z h7 b1 k1 .long (4 : Int32) [(.long t0), (.long t1), (.long t2), (.long (0 : Int64))] (.long (0 : Int64)) := Arv.set Ar7 qk7 Sz7 Nn7 Ha7 Gf7 rfl W7 2 rfl (Nat.le_of_ble_eq_true rfl)
  have N7 := Fr.snoc X7 N5 old_b1
  have z8 : h0.size ≤ h7.size := Nat.le_trans z6 (Keep.of_wr W7).1
  refine w_dup X7 hx hby n0_106 rfl ?_
  refine w_iconst X7 hx hby (3 : Int32) n0_107 rfl ?_
  refine w_lload X7 hx hby n0_108 rfl ?_
  obtain ⟨cl9, Ar9, qk9, Sz9, Nn9, Ha9, Gf9⟩ := id V7
  refine w_stJ X7 hx hby hZ e7 Ar9 (j := (3 : Int32)) (inb_of Sz9 ⟨by decide, by decide⟩) n0_110 fun T9 h9 X9 e9 W9 => ?_
  have V9 : Arv Z h9 b1 k1 .long (4 : Int32) [(.long t0), (.long t1), (.long t2), (.long t3)] (.long (0 : Int64)) := Arv.set Ar9 qk9 Sz9 Nn9 Ha9 Gf9 rfl W9 3 rfl (Nat.le_of_ble_eq_true rfl)
  have N9 := Fr.snoc X9 N7 old_b1
  have z10 : h0.size ≤ h9.size := Nat.le_trans z8 (Keep.of_wr W9).1
  refine w_astore X9 hx hby #[.val (.long x0), .second, .val (.int p2), .val (.int p3), .val (.int p4), .val (.int p5), .val (.long t0), .second, .val (.long t1), .second, .val (.long t2), .second, .val (.long t3), .second, .val (.long f), .second, .val (.long u), .second, .val (.ref b1), .unset, .unset, .unset, .unset, .unset, .unset, .unset] n0_111 rfl rfl ?_
  refine w_lload X9 hx hby n0_113 rfl ?_
  refine w_lload X9 hx hby n0_115 rfl ?_
  refine w_calledp (call_S X9 hx hby hZ hown (argsL := [(.long t0), (.long f)]) (rest := []) (Wd := 0) (hw _ t_4) (hw _ t_5) (hw _ t_6) (hw _ t_7) (by decide) (rle l Z a0 hw t0 f h9) rfl n0_117 (by rw [hml]; rfl) (lenOf pd_2751 rfl) rfl (by decide) (by decide) (by decide) (by decide) e9) rfl rfl fun T11 X11 e11 => ?_
  refine w_lload X11 hx hby n0_120 rfl ?_
  refine w_lload X11 hx hby n0_122 rfl ?_
  refine w_calledp (call_S X11 hx hby hZ hown (argsL := [(.long t1), (.long f)]) (rest := [(.int (own_le t0 f))]) (Wd := 1) (hw _ t_4) (hw _ t_5) (hw _ t_6) (hw _ t_7) (by decide) (rle l Z a0 hw t1 f h9) rfl n0_124 (by rw [hml]; rfl) (lenOf pd_2751 rfl) rfl (by decide) (by decide) (by decide) (by decide) e11) rfl rfl fun T12 X12 e12 => ?_
  refine w_iadd X12 hx hby n0_127 ?_
  refine w_lload X12 hx hby n0_128 rfl ?_
  refine w_lload X12 hx hby n0_130 rfl ?_
  refine w_calledp (call_S X12 hx hby hZ hown (argsL := [(.long t2), (.long f)]) (rest := [(.int ((own_le t0 f) + (own_le t1 f)))]) (Wd := 1) (hw _ t_4) (hw _ t_5) (hw _ t_6) (hw _ t_7) (by decide) (rle l Z a0 hw t2 f h9) rfl n0_132 (by rw [hml]; rfl) (lenOf pd_2751 rfl) rfl (by decide) (by decide) (by decide) (by decide) e12) rfl rfl fun T13 X13 e13 => ?_
  refine w_iadd X13 hx hby n0_135 ?_
  refine w_lload X13 hx hby n0_136 rfl ?_
  refine w_lload X13 hx hby n0_138 rfl ?_
  refine w_calledp (call_S X13 hx hby hZ hown (argsL := [(.long t3), (.long f)]) (rest := [(.int (((own_le t0 f) + (own_le t1 f)) + (own_le t2 f)))]) (Wd := 1) (hw _ t_4) (hw _ t_5) (hw _ t_6) (hw _ t_7) (by decide) (rle l Z a0 hw t3 f h9) rfl n0_140 (by rw [hml]; rfl) (lenOf pd_2751 rfl) rfl (by decide) (by decide) (by decide) (by decide) e13) rfl rfl fun T14 X14 e14 => ?_
  refine w_iadd X14 hx hby n0_143 ?_
  refine w_istore X14 hx hby #[.val (.long x0), .second, .val (.int p2), .val (.int p3), .val (.int p4), .val (.int p5), .val (.long t0), .second, .val (.long t1), .second, .val (.long t2), .second, .val (.long t3), .second, .val (.long f), .second, .val (.long u), .second, .val (.ref b1), .val (.int ((((own_le t0 f) + (own_le t1 f)) + (own_le t2 f)) + (own_le t3 f))), .unset, .unset, .unset, .unset, .unset, .unset] n0_144 rfl ?_
  refine w_lload X14 hx hby n0_146 rfl ?_
  refine w_lload X14 hx hby n0_148 rfl ?_
  refine w_calledp (call_S X14 hx hby hZ hown (argsL := [(.long t0), (.long u)]) (rest := []) (Wd := 0) (hw _ t_8) (hw _ t_9) (hw _ t_6) (hw _ t_10) (by decide) (rlt l Z a0 hw t0 u h9) rfl n0_150 (by rw [hml]; rfl) (lenOf pd_2751 rfl) rfl (by decide) (by decide) (by decide) (by decide) e14) rfl rfl fun T15 X15 e15 => ?_
  refine w_lload X15 hx hby n0_153 rfl ?_
  refine w_lload X15 hx hby n0_155 rfl ?_
  refine w_calledp (call_S X15 hx hby hZ hown (argsL := [(.long t1), (.long u)]) (rest := [(.int (own_lt t0 u))]) (Wd := 1) (hw _ t_8) (hw _ t_9) (hw _ t_6) (hw _ t_10) (by decide) (rlt l Z a0 hw t1 u h9) rfl n0_157 (by rw [hml]; rfl) (lenOf pd_2751 rfl) rfl (by decide) (by decide) (by decide) (by decide) e15) rfl rfl fun T16 X16 e16 => ?_
  refine w_iadd X16 hx hby n0_160 ?_
  refine w_lload X16 hx hby n0_161 rfl ?_
  refine w_lload X16 hx hby n0_163 rfl ?_
  refine w_calledp (call_S X16 hx hby hZ hown (argsL := [(.long t2), (.long u)]) (rest := [(.int ((own_lt t0 u) + (own_lt t1 u)))]) (Wd := 1) (hw _ t_8) (hw _ t_9) (hw _ t_6) (hw _ t_10) (by decide) (rlt l Z a0 hw t2 u h9) rfl n0_165 (by rw [hml]; rfl) (lenOf pd_2751 rfl) rfl (by decide) (by decide) (by decide) (by decide) e16) rfl rfl fun T17 X17 e17 => ?_
  refine w_iadd X17 hx hby n0_168 ?_
  refine w_lload X17 hx hby n0_169 rfl ?_
  refine w_lload X17 hx hby n0_171 rfl ?_
  refine w_calledp (call_S X17 hx hby hZ hown (argsL := [(.long t3), (.long u)]) (rest := [(.int (((own_lt t0 u) + (own_lt t1 u)) + (own_lt t2 u)))]) (Wd := 1) (hw _ t_8) (hw _ t_9) (hw _ t_6) (hw _ t_10) (by decide) (rlt l Z a0 hw t3 u h9) rfl n0_173 (by rw [hml]; rfl) (lenOf pd_2751 rfl) rfl (by decide) (by decide) (by decide) (by decide) e17) rfl rfl fun T18 X18 e18 => ?_
  refine w_iadd X18 hx hby n0_176 ?_
  refine w_istore X18 hx hby #[.val (.long x0), .second, .val (.int p2), .val (.int p3), .val (.int p4), .val (.int p5), .val (.long t0), .second, .val (.long t1), .second, .val (.long t2), .second, .val (.long t3), .second, .val (.long f), .second, .val (.long u), .second, .val (.ref b1), .val (.int ((((own_le t0 f) + (own_le t1 f)) + (own_le t2 f)) + (own_le t3 f))), .val (.int ((((own_lt t0 u) + (own_lt t1 u)) + (own_lt t2 u)) + (own_lt t3 u))), .unset, .unset, .unset, .unset, .unset] n0_177 rfl ?_
  refine w_iload X18 hx hby n0_179 rfl ?_
  refine w_iload X18 hx hby n0_181 rfl ?_
  refine w_isub X18 hx hby n0_183 ?_
  refine w_istore X18 hx hby #[.val (.long x0), .second, .val (.int p2), .val (.int p3), .val (.int p4), .val (.int p5), .val (.long t0), .second, .val (.long t1), .second, .val (.long t2), .second, .val (.long t3), .second, .val (.long f), .second, .val (.long u), .second, .val (.ref b1), .val (.int ((((own_le t0 f) + (own_le t1 f)) + (own_le t2 f)) + (own_le t3 f))), .val (.int ((((own_lt t0 u) + (own_lt t1 u)) + (own_lt t2 u)) + (own_lt t3 u))), .val (.int (((((own_lt t0 u) + (own_lt t1 u)) + (own_lt t2 u)) + (own_lt t3 u)) - ((((own_le t0 f) + (own_le t1 f)) + (own_le t2 f)) + (own_le t3 f)))), .unset, .unset, .unset, .unset] n0_184 rfl ?_
  obtain ⟨cl, Ar19, qk19, Sz19, Nn19, Ha19, Gf19⟩ := id V9
  have hV : Vals cl 4 (own_g t0 t1 t2 t3) := ⟨Sz19, by decide, fun j hj => by rw [Ha19 j (by rw [Sz19]; exact hj)]; rcases (by omega : j = 0 ∨ j = 1 ∨ j = 2 ∨ j = 3) with rfl | rfl | rfl | rfl <;> rfl, fun i j hij hj => by rcases (by omega : i = 0 ∧ j = 1 ∨ i = 0 ∧ j = 2 ∨ i = 0 ∧ j = 3 ∨ i = 1 ∧ j = 2 ∨ i = 1 ∧ j = 3 ∨ i = 2 ∧ j = 3) with ⟨rfl, rfl⟩ | ⟨rfl, rfl⟩ | ⟨rfl, rfl⟩ | ⟨rfl, rfl⟩ | ⟨rfl, rfl⟩ | ⟨rfl, rfl⟩ <;> simp only [own_g] <;> simp <;> omega⟩
  refine w_newO X18 hx hby hZ hown (hw _ t_11) (hw _ t_12) (hw _ t_13) e18 n0_186 (by decide) (by decide) fun T20 h20 b20 g20 X20 e20 E20 A20 D20 => ?_
  have ne_b1_b20 : b1 ≠ b20 := Nat.ne_of_lt (Nat.lt_of_lt_of_eq V9.lt g20.symm)
  have old_b20 : h0.size ≤ b20 := Nat.le_trans z10 (Nat.le_of_eq g20.symm)
  have z21 : h0.size ≤ h20.size := Nat.le_trans z10 E20.1
  have F20_timestamps : Fld Z h20 b20 "com/example/panoptes/panoptes/Cuts" "timestamps" "[J" .null := D20 (Or.inr (hw _ t_21)) (ty := (.array .long)) (by decide)
  have F20_inside : Fld Z h20 b20 "com/example/panoptes/panoptes/Cuts" "inside" "I" (.int (0 : Int32)) := D20 (Or.inr (hw _ t_36)) (ty := .int) (by decide)
  have F20_intervals : Fld Z h20 b20 "com/example/panoptes/panoptes/Cuts" "intervals" "I" (.int (0 : Int32)) := D20 (Or.inr (hw _ t_38)) (ty := .int) (by decide)
  have F20_from : Fld Z h20 b20 "com/example/panoptes/panoptes/Cuts" "from" "J" (.long (0 : Int64)) := D20 (Or.inr (hw _ t_40)) (ty := .long) (by decide)
  have F20_to : Fld Z h20 b20 "com/example/panoptes/panoptes/Cuts" "to" "J" (.long (0 : Int64)) := D20 (Or.inr (hw _ t_42)) (ty := .long) (by decide)
  refine w_dup X20 hx hby n0_189 rfl ?_
  refine w_aload X20 hx hby n0_190 rfl rfl ?_
  refine w_lload X20 hx hby n0_192 rfl ?_
  refine w_lload X20 hx hby n0_194 rfl ?_
  have f22 := (Ar19.ext E20)
  refine w_called (call_N X20 hx hby hZ hown (argsL := [(.ref b1), (.long f), (.long u)]) (rest := [(.ref b20)]) (Wd := 1) (a := b20) rfl (hw _ t_14) (hw _ t_15) (hw _ t_13) (hw _ t_16) (by decide) (rci l Z a0 hw b20 b1 cl 4 (own_g t0 t1 t2 t3) f u h20 h0.size z21 old_b20 A20 F20_timestamps F20_inside F20_intervals F20_from F20_to f22 ne_b1_b20 hV) rfl n0_196 (by rw [hml]; rfl) (lenOf pd_4838 rfl) rfl (by decide) (by decide) (by decide) (by decide) e20) fun v23 T23 L23 X23 Q23 => ?_
  obtain ⟨rfl, n23, k23, ea23, r1, r2, hF1, hF2, c23_timestamps, c23_inside, c23_intervals, c23_from, c23_to⟩ := Q23
  have N23 := Fr.app N9 n23
  have z24 : h0.size ≤ T23.heap.size := Nat.le_trans z21 k23.1
  show Wp p e below s _ _ _ T23 (mkF m 199 #[.val (.long x0), .second, .val (.int p2), .val (.int p3), .val (.int p4), .val (.int p5), .val (.long t0), .second, .val (.long t1), .second, .val (.long t2), .second, .val (.long t3), .second, .val (.long f), .second, .val (.long u), .second, .val (.ref b1), .val (.int ((((own_le t0 f) + (own_le t1 f)) + (own_le t2 f)) + (own_le t3 f))), .val (.int ((((own_lt t0 u) + (own_lt t1 u)) + (own_lt t2 u)) + (own_lt t3 u))), .val (.int (((((own_lt t0 u) + (own_lt t1 u)) + (own_lt t2 u)) + (own_lt t3 u)) - ((((own_le t0 f) + (own_le t1 f)) + (own_le t2 f)) + (own_le t3 f)))), .unset, .unset, .unset, .unset] [(.ref b20)])
  rw [own_S H4 hF1, own_U H4 H5 hF1 hF2]
  refine w_astore X23 hx hby #[.val (.long x0), .second, .val (.int p2), .val (.int p3), .val (.int p4), .val (.int p5), .val (.long t0), .second, .val (.long t1), .second, .val (.long t2), .second, .val (.long t3), .second, .val (.long f), .second, .val (.long u), .second, .val (.ref b1), .val (.int (Int32.ofNat r1)), .val (.int (Int32.ofNat r2)), .val (.int ((Int32.ofNat r2) - (Int32.ofNat r1))), .val (.ref b20), .unset, .unset, .unset] n0_199 rfl rfl ?_
  refine w_iload X23 hx hby n0_201 rfl ?_
  refine w_ldcI X23 hx hby hZ hown (hw _ t_43) n0_203 ?_
  refine w_iand X23 hx hby n0_205 ?_
  refine w_iload X23 hx hby n0_206 rfl ?_
  refine w_iconst X23 hx hby (2 : Int32) n0_208 rfl ?_
  refine w_iadd X23 hx hby n0_209 ?_
  refine w_irem X23 hx hby n0_210 (own_nz hF2.1 hF2.2.1) ?_
  refine w_istore X23 hx hby #[.val (.long x0), .second, .val (.int p2), .val (.int p3), .val (.int p4), .val (.int p5), .val (.long t0), .second, .val (.long t1), .second, .val (.long t2), .second, .val (.long t3), .second, .val (.long f), .second, .val (.long u), .second, .val (.ref b1), .val (.int (Int32.ofNat r1)), .val (.int (Int32.ofNat r2)), .val (.int ((Int32.ofNat r2) - (Int32.ofNat r1))), .val (.ref b20), .val (.int ((p5 &&& (2147483647 : Int32)) % (((Int32.ofNat r2) - (Int32.ofNat r1)) + (2 : Int32)))), .unset, .unset] n0_211 rfl ?_
  refine w_iload X23 hx hby n0_213 rfl ?_
  refine f_if_ne X23 hx hby n0_215 (fun q215 => ?_) (fun q215 => ?_)
  · refine w_iload X23 hx hby n0_225 rfl ?_
    refine w_iload X23 hx hby n0_227 rfl ?_
    refine w_iconst X23 hx hby (1 : Int32) n0_229 rfl ?_
    refine w_iadd X23 hx hby n0_230 ?_
    refine f_icmp_ne X23 hx hby n0_231 (fun q231 => ?_) (fun q231 => ?_)
    · refine w_lload X23 hx hby n0_241 rfl ?_
      refine w_lload X23 hx hby n0_243 rfl ?_
      refine w_lload X23 hx hby n0_245 rfl ?_
      refine w_lload X23 hx hby n0_247 rfl ?_
      refine w_iload X23 hx hby n0_249 rfl ?_
      refine w_iload X23 hx hby n0_251 rfl ?_
      refine w_iadd X23 hx hby n0_253 ?_
      refine w_iconst X23 hx hby (1 : Int32) n0_254 rfl ?_
      refine w_isub X23 hx hby n0_255 ?_
      refine w_calledp (call_S X23 hx hby hZ hown (argsL := [(.long t0), (.long t1), (.long t2), (.long t3), (.int (((Int32.ofNat r1) + ((p5 &&& (2147483647 : Int32)) % (((Int32.ofNat r2) - (Int32.ofNat r1)) + (2 : Int32)))) - (1 : Int32)))]) (rest := []) (Wd := 0) (hw _ t_54) (hw _ t_55) (hw _ t_6) (hw _ t_56) (by decide) (rpk l Z a0 hw t0 t1 t2 t3 (((Int32.ofNat r1) + ((p5 &&& (2147483647 : Int32)) % (((Int32.ofNat r2) - (Int32.ofNat r1)) + (2 : Int32)))) - (1 : Int32)) T23.heap) rfl n0_256 (by rw [hml]; rfl) (lenOf pd_5537 rfl) rfl (by decide) (by decide) (by decide) (by decide) rfl) rfl rfl fun T25 X25 e25 => ?_
      refine w_lstore X25 hx hby #[.val (.long x0), .second, .val (.int p2), .val (.int p3), .val (.int p4), .val (.int p5), .val (.long t0), .second, .val (.long t1), .second, .val (.long t2), .second, .val (.long t3), .second, .val (.long f), .second, .val (.long u), .second, .val (.ref b1), .val (.int (Int32.ofNat r1)), .val (.int (Int32.ofNat r2)), .val (.int ((Int32.ofNat r2) - (Int32.ofNat r1))), .val (.ref b20), .val (.int ((p5 &&& (2147483647 : Int32)) % (((Int32.ofNat r2) - (Int32.ofNat r1)) + (2 : Int32)))), .val (.long (own_pk t0 t1 t2 t3 (((Int32.ofNat r1) + ((p5 &&& (2147483647 : Int32)) % (((Int32.ofNat r2) - (Int32.ofNat r1)) + (2 : Int32)))) - (1 : Int32)))), .second] n0_259 rfl ?_
      refine w_aload X25 hx hby n0_261 rfl rfl ?_
      refine w_calledp (call_V X25 hx hby hZ hown (argsL := []) (rest := []) (Wd := 0) (a := b20) (hw _ t_44) (hw _ t_45) (hw _ t_47) (hw _ t_46) (hw _ t_13) (hw _ t_48) (by decide) ea23 (riv l Z a0 hw b20 (((Int32.ofNat r2) - (Int32.ofNat r1)) + (1 : Int32)) T23.heap c23_intervals) rfl n0_263 (by rw [hml]; rfl) (lenOf pd_1265 rfl) rfl (by decide) (by decide) (by decide) (by decide) e25) rfl rfl fun T26 X26 e26 => ?_
      refine w_iload X26 hx hby n0_266 rfl ?_
      refine w_iconst X26 hx hby (1 : Int32) n0_268 rfl ?_
      refine w_iadd X26 hx hby n0_269 ?_
      refine f_icmp_ne X26 hx hby n0_270 (fun q270 => by exact absurd rfl q270) (fun q270 => ?_)
      refine w_aload X26 hx hby n0_273 rfl rfl ?_
      refine w_iload X26 hx hby n0_275 rfl ?_
      have f27 := (own_arr_keep f22 k23 (ninS ne_b1_b20 nin0))
      refine w_calledp (call_V X26 hx hby hZ hown (argsL := [(.int ((p5 &&& (2147483647 : Int32)) % (((Int32.ofNat r2) - (Int32.ofNat r1)) + (2 : Int32))))]) (rest := []) (Wd := 0) (a := b20) (hw _ t_49) (hw _ t_50) (hw _ t_52) (hw _ t_51) (hw _ t_13) (hw _ t_53) (by decide) ea23 (rse l Z a0 hw b20 b1 cl f u (own_pk t0 t1 t2 t3 (((Int32.ofNat r1) + ((p5 &&& (2147483647 : Int32)) % (((Int32.ofNat r2) - (Int32.ofNat r1)) + (2 : Int32)))) - (1 : Int32))) ((p5 &&& (2147483647 : Int32)) % (((Int32.ofNat r2) - (Int32.ofNat r1)) + (2 : Int32))) r1 r2 T23.heap c23_timestamps c23_inside c23_intervals c23_from c23_to f27 (own_hat hV hF2.1 hF2.2.1 (own_c hF2.1 hF2.2.1 p5).1 (own_c hF2.1 hF2.2.1 p5).2)) rfl n0_277 (by rw [hml]; rfl) (lenOf pd_1973 rfl) rfl (by decide) (by decide) (by decide) (by decide) e26) rfl rfl fun T28 X28 e28 => ?_
      refine w_lload X28 hx hby n0_280 rfl ?_
      refine f_lcmp_ne X28 hx hby n0_282 n0_283 (fun q282 => by exact absurd (by unfold own_se; rw [if_neg q215, if_neg q231]) q282) (fun q282 => ?_)
      refine w_iconst X28 hx hby (1 : Int32) n0_286 rfl ?_
      refine w_goto X28 hx hby n0_287 ?_
      refine w_retN X28 hx hby e28 hlk hret (by simp) n0_291 (by decide) (by decide) ?_
      exact ⟨rfl, N23⟩
    · refine w_lload X23 hx hby n0_234 rfl ?_
      refine w_lstore X23 hx hby #[.val (.long x0), .second, .val (.int p2), .val (.int p3), .val (.int p4), .val (.int p5), .val (.long t0), .second, .val (.long t1), .second, .val (.long t2), .second, .val (.long t3), .second, .val (.long f), .second, .val (.long u), .second, .val (.ref b1), .val (.int (Int32.ofNat r1)), .val (.int (Int32.ofNat r2)), .val (.int ((Int32.ofNat r2) - (Int32.ofNat r1))), .val (.ref b20), .val (.int ((p5 &&& (2147483647 : Int32)) % (((Int32.ofNat r2) - (Int32.ofNat r1)) + (2 : Int32)))), .val (.long u), .second] n0_236 rfl ?_
      refine w_goto X23 hx hby n0_238 ?_
      refine w_aload X23 hx hby n0_261 rfl rfl ?_
      refine w_calledp (call_V X23 hx hby hZ hown (argsL := []) (rest := []) (Wd := 0) (a := b20) (hw _ t_44) (hw _ t_45) (hw _ t_47) (hw _ t_46) (hw _ t_13) (hw _ t_48) (by decide) ea23 (riv l Z a0 hw b20 (((Int32.ofNat r2) - (Int32.ofNat r1)) + (1 : Int32)) T23.heap c23_intervals) rfl n0_263 (by rw [hml]; rfl) (lenOf pd_1265 rfl) rfl (by decide) (by decide) (by decide) (by decide) rfl) rfl rfl fun T29 X29 e29 => ?_
      refine w_iload X29 hx hby n0_266 rfl ?_
      refine w_iconst X29 hx hby (1 : Int32) n0_268 rfl ?_
      refine w_iadd X29 hx hby n0_269 ?_
      refine f_icmp_ne X29 hx hby n0_270 (fun q270 => by exact absurd rfl q270) (fun q270 => ?_)
      refine w_aload X29 hx hby n0_273 rfl rfl ?_
      refine w_iload X29 hx hby n0_275 rfl ?_
      have f30 := (own_arr_keep f22 k23 (ninS ne_b1_b20 nin0))
      refine w_calledp (call_V X29 hx hby hZ hown (argsL := [(.int ((p5 &&& (2147483647 : Int32)) % (((Int32.ofNat r2) - (Int32.ofNat r1)) + (2 : Int32))))]) (rest := []) (Wd := 0) (a := b20) (hw _ t_49) (hw _ t_50) (hw _ t_52) (hw _ t_51) (hw _ t_13) (hw _ t_53) (by decide) ea23 (rse l Z a0 hw b20 b1 cl f u (own_pk t0 t1 t2 t3 (((Int32.ofNat r1) + ((p5 &&& (2147483647 : Int32)) % (((Int32.ofNat r2) - (Int32.ofNat r1)) + (2 : Int32)))) - (1 : Int32))) ((p5 &&& (2147483647 : Int32)) % (((Int32.ofNat r2) - (Int32.ofNat r1)) + (2 : Int32))) r1 r2 T23.heap c23_timestamps c23_inside c23_intervals c23_from c23_to f30 (own_hat hV hF2.1 hF2.2.1 (own_c hF2.1 hF2.2.1 p5).1 (own_c hF2.1 hF2.2.1 p5).2)) rfl n0_277 (by rw [hml]; rfl) (lenOf pd_1973 rfl) rfl (by decide) (by decide) (by decide) (by decide) e29) rfl rfl fun T31 X31 e31 => ?_
      refine w_lload X31 hx hby n0_280 rfl ?_
      refine f_lcmp_ne X31 hx hby n0_282 n0_283 (fun q282 => by exact absurd (by unfold own_se; rw [if_neg q215, if_pos q231]) q282) (fun q282 => ?_)
      refine w_iconst X31 hx hby (1 : Int32) n0_286 rfl ?_
      refine w_goto X31 hx hby n0_287 ?_
      refine w_retN X31 hx hby e31 hlk hret (by simp) n0_291 (by decide) (by decide) ?_
      exact ⟨rfl, N23⟩
  · refine w_lload X23 hx hby n0_218 rfl ?_
    refine w_lstore X23 hx hby #[.val (.long x0), .second, .val (.int p2), .val (.int p3), .val (.int p4), .val (.int p5), .val (.long t0), .second, .val (.long t1), .second, .val (.long t2), .second, .val (.long t3), .second, .val (.long f), .second, .val (.long u), .second, .val (.ref b1), .val (.int (Int32.ofNat r1)), .val (.int (Int32.ofNat r2)), .val (.int ((Int32.ofNat r2) - (Int32.ofNat r1))), .val (.ref b20), .val (.int ((p5 &&& (2147483647 : Int32)) % (((Int32.ofNat r2) - (Int32.ofNat r1)) + (2 : Int32)))), .val (.long f), .second] n0_220 rfl ?_
    refine w_goto X23 hx hby n0_222 ?_
    refine w_aload X23 hx hby n0_261 rfl rfl ?_
    refine w_calledp (call_V X23 hx hby hZ hown (argsL := []) (rest := []) (Wd := 0) (a := b20) (hw _ t_44) (hw _ t_45) (hw _ t_47) (hw _ t_46) (hw _ t_13) (hw _ t_48) (by decide) ea23 (riv l Z a0 hw b20 (((Int32.ofNat r2) - (Int32.ofNat r1)) + (1 : Int32)) T23.heap c23_intervals) rfl n0_263 (by rw [hml]; rfl) (lenOf pd_1265 rfl) rfl (by decide) (by decide) (by decide) (by decide) rfl) rfl rfl fun T32 X32 e32 => ?_
    refine w_iload X32 hx hby n0_266 rfl ?_
    refine w_iconst X32 hx hby (1 : Int32) n0_268 rfl ?_
    refine w_iadd X32 hx hby n0_269 ?_
    refine f_icmp_ne X32 hx hby n0_270 (fun q270 => by exact absurd rfl q270) (fun q270 => ?_)
    refine w_aload X32 hx hby n0_273 rfl rfl ?_
    refine w_iload X32 hx hby n0_275 rfl ?_
    have f33 := (own_arr_keep f22 k23 (ninS ne_b1_b20 nin0))
    refine w_calledp (call_V X32 hx hby hZ hown (argsL := [(.int ((p5 &&& (2147483647 : Int32)) % (((Int32.ofNat r2) - (Int32.ofNat r1)) + (2 : Int32))))]) (rest := []) (Wd := 0) (a := b20) (hw _ t_49) (hw _ t_50) (hw _ t_52) (hw _ t_51) (hw _ t_13) (hw _ t_53) (by decide) ea23 (rse l Z a0 hw b20 b1 cl f u (own_pk t0 t1 t2 t3 (((Int32.ofNat r1) + ((p5 &&& (2147483647 : Int32)) % (((Int32.ofNat r2) - (Int32.ofNat r1)) + (2 : Int32)))) - (1 : Int32))) ((p5 &&& (2147483647 : Int32)) % (((Int32.ofNat r2) - (Int32.ofNat r1)) + (2 : Int32))) r1 r2 T23.heap c23_timestamps c23_inside c23_intervals c23_from c23_to f33 (own_hat hV hF2.1 hF2.2.1 (own_c hF2.1 hF2.2.1 p5).1 (own_c hF2.1 hF2.2.1 p5).2)) rfl n0_277 (by rw [hml]; rfl) (lenOf pd_1973 rfl) rfl (by decide) (by decide) (by decide) (by decide) e32) rfl rfl fun T34 X34 e34 => ?_
    refine w_lload X34 hx hby n0_280 rfl ?_
    refine f_lcmp_ne X34 hx hby n0_282 n0_283 (fun q282 => by exact absurd (by unfold own_se; rw [if_pos q215]) q282) (fun q282 => ?_)
    refine w_iconst X34 hx hby (1 : Int32) n0_286 rfl ?_
    refine w_goto X34 hx hby n0_287 ?_
    refine w_retN X34 hx hby e34 hlk hret (by simp) n0_291 (by decide) (by decide) ?_
    exact ⟨rfl, N23⟩
set_option maxRecDepth 65536 in
set_option maxHeartbeats 4000000 in
theorem ef_law0 (m : MethodId) (x0 : Int64) (x1 : Int32) (x2 : Int32) (x3 : Int32) (x4 : Int32) : entryFrame m #[(.long x0), (.int x1), (.int x2), (.int x3), (.int x4)] maxLocals = mkF m 0 #[.val (.long x0), .second, .val (.int x1), .val (.int x2), .val (.int x3), .val (.int x4), .unset, .unset, .unset, .unset, .unset, .unset, .unset, .unset, .unset, .unset, .unset, .unset, .unset, .unset, .unset, .unset, .unset, .unset, .unset, .unset] [] := by first | (simp [entryFrame, mkF, argsToLocals, Value.category, maxLocals]; done) | rfl
set_option maxRecDepth 65536 in
set_option maxHeartbeats 40000000 in
theorem law0 (l : Launch) (Z : State) (a0 : Array Value) (hw : ∀ d ∈ tables_1, d.before a0 Z = true) (x0 : Int64) (p2 p3 p4 p5 : Int32) (h0 : Heap) : Con l Z x code maxLocals ret room_1 #[(.long x0), (.int p2), (.int p3), (.int p4), (.int p5)] h0 (fun v h L => v = some (.int 1) ∧ Fr h0.size L) := by
  refine w_body (Ls := #[.val (.long x0), .second, .val (.int p2), .val (.int p3), .val (.int p4), .val (.int p5), .unset, .unset, .unset, .unset, .unset, .unset, .unset, .unset, .unset, .unset, .unset, .unset, .unset, .unset, .unset, .unset, .unset, .unset, .unset, .unset]) pn_0 (fun m => ef_law0 m x0 p2 p3 p4 p5) ?_
  intro p e s m below meth c T0 X0 hx hby hml hown hnm hret hlk hZ e0
  have hml : c.maxLocals = 26 := hml
  refine w_lloadN X0 hx hby n0_0 rfl ?_
  refine w_ldc2J X0 hx hby hZ hown (hw _ t_0) n0_1 ?_
  refine f_lcmp_gt X0 hx hby n0_4 n0_5 (fun q4 => ?_) (fun q4 => ?_)
  · refine w_iconst X0 hx hby (1 : Int32) n0_16 rfl ?_
    refine w_retN X0 hx hby e0 hlk hret (by simp) n0_17 (by decide) (by decide) ?_
    exact ⟨rfl, (Fr.nil h0.size)⟩
  · refine w_lloadN X0 hx hby n0_8 rfl ?_
    refine w_ldc2J X0 hx hby hZ hown (hw _ t_1) n0_9 ?_
    refine f_lcmp_ge X0 hx hby n0_12 n0_13 (fun q12 => ?_) (fun q12 => ?_)
    · refine w_lloadN X0 hx hby n0_18 rfl ?_
      refine w_lstore X0 hx hby #[.val (.long x0), .second, .val (.int p2), .val (.int p3), .val (.int p4), .val (.int p5), .val (.long x0), .second, .unset, .unset, .unset, .unset, .unset, .unset, .unset, .unset, .unset, .unset, .unset, .unset, .unset, .unset, .unset, .unset, .unset, .unset] n0_19 rfl ?_
      refine w_lload X0 hx hby n0_21 rfl ?_
      refine w_lconst X0 hx hby (1 : Int64) n0_23 rfl ?_
      refine w_ladd X0 hx hby n0_24 ?_
      refine w_iloadN X0 hx hby n0_25 rfl ?_
      refine w_bipush X0 hx hby (7 : Int32) n0_26 rfl ?_
      refine w_iand X0 hx hby n0_28 ?_
      refine w_i2l X0 hx hby n0_29 ?_
      refine w_ladd X0 hx hby n0_30 ?_
      refine w_lstore X0 hx hby #[.val (.long x0), .second, .val (.int p2), .val (.int p3), .val (.int p4), .val (.int p5), .val (.long x0), .second, .val (.long ((x0 + (1 : Int64)) + ((p2 &&& (7 : Int32)).toInt64))), .second, .unset, .unset, .unset, .unset, .unset, .unset, .unset, .unset, .unset, .unset, .unset, .unset, .unset, .unset, .unset, .unset] n0_31 rfl ?_
      refine w_lload X0 hx hby n0_33 rfl ?_
      refine w_lconst X0 hx hby (1 : Int64) n0_35 rfl ?_
      refine w_ladd X0 hx hby n0_36 ?_
      refine w_iloadN X0 hx hby n0_37 rfl ?_
      refine w_iconst X0 hx hby (3 : Int32) n0_38 rfl ?_
      refine w_iushr X0 hx hby n0_39 ?_
      refine w_bipush X0 hx hby (7 : Int32) n0_40 rfl ?_
      refine w_iand X0 hx hby n0_42 ?_
      refine w_i2l X0 hx hby n0_43 ?_
      refine w_ladd X0 hx hby n0_44 ?_
      refine w_lstore X0 hx hby #[.val (.long x0), .second, .val (.int p2), .val (.int p3), .val (.int p4), .val (.int p5), .val (.long x0), .second, .val (.long ((x0 + (1 : Int64)) + ((p2 &&& (7 : Int32)).toInt64))), .second, .val (.long ((((x0 + (1 : Int64)) + ((p2 &&& (7 : Int32)).toInt64)) + (1 : Int64)) + ((((p2.toUInt32 >>> ((3 : Int32) &&& 31).toUInt32).toInt32) &&& (7 : Int32)).toInt64))), .second, .unset, .unset, .unset, .unset, .unset, .unset, .unset, .unset, .unset, .unset, .unset, .unset, .unset, .unset] n0_45 rfl ?_
      refine w_lload X0 hx hby n0_47 rfl ?_
      refine w_lconst X0 hx hby (1 : Int64) n0_49 rfl ?_
      refine w_ladd X0 hx hby n0_50 ?_
      refine w_iloadN X0 hx hby n0_51 rfl ?_
      refine w_bipush X0 hx hby (6 : Int32) n0_52 rfl ?_
      refine w_iushr X0 hx hby n0_54 ?_
      refine w_bipush X0 hx hby (7 : Int32) n0_55 rfl ?_
      refine w_iand X0 hx hby n0_57 ?_
      refine w_i2l X0 hx hby n0_58 ?_
      refine w_ladd X0 hx hby n0_59 ?_
      refine w_lstore X0 hx hby #[.val (.long x0), .second, .val (.int p2), .val (.int p3), .val (.int p4), .val (.int p5), .val (.long x0), .second, .val (.long ((x0 + (1 : Int64)) + ((p2 &&& (7 : Int32)).toInt64))), .second, .val (.long ((((x0 + (1 : Int64)) + ((p2 &&& (7 : Int32)).toInt64)) + (1 : Int64)) + ((((p2.toUInt32 >>> ((3 : Int32) &&& 31).toUInt32).toInt32) &&& (7 : Int32)).toInt64))), .second, .val (.long ((((((x0 + (1 : Int64)) + ((p2 &&& (7 : Int32)).toInt64)) + (1 : Int64)) + ((((p2.toUInt32 >>> ((3 : Int32) &&& 31).toUInt32).toInt32) &&& (7 : Int32)).toInt64)) + (1 : Int64)) + ((((p2.toUInt32 >>> ((6 : Int32) &&& 31).toUInt32).toInt32) &&& (7 : Int32)).toInt64))), .second, .unset, .unset, .unset, .unset, .unset, .unset, .unset, .unset, .unset, .unset, .unset, .unset] n0_60 rfl ?_
      refine w_lloadN X0 hx hby n0_62 rfl ?_
      refine w_ldc2J X0 hx hby hZ hown (hw _ t_2) n0_63 ?_
      refine w_lsub X0 hx hby n0_66 ?_
      refine w_iloadN X0 hx hby n0_67 rfl ?_
      refine w_bipush X0 hx hby (31 : Int32) n0_68 rfl ?_
      refine w_iand X0 hx hby n0_70 ?_
      refine w_i2l X0 hx hby n0_71 ?_
      refine w_ladd X0 hx hby n0_72 ?_
      refine w_lstore X0 hx hby #[.val (.long x0), .second, .val (.int p2), .val (.int p3), .val (.int p4), .val (.int p5), .val (.long x0), .second, .val (.long ((x0 + (1 : Int64)) + ((p2 &&& (7 : Int32)).toInt64))), .second, .val (.long ((((x0 + (1 : Int64)) + ((p2 &&& (7 : Int32)).toInt64)) + (1 : Int64)) + ((((p2.toUInt32 >>> ((3 : Int32) &&& 31).toUInt32).toInt32) &&& (7 : Int32)).toInt64))), .second, .val (.long ((((((x0 + (1 : Int64)) + ((p2 &&& (7 : Int32)).toInt64)) + (1 : Int64)) + ((((p2.toUInt32 >>> ((3 : Int32) &&& 31).toUInt32).toInt32) &&& (7 : Int32)).toInt64)) + (1 : Int64)) + ((((p2.toUInt32 >>> ((6 : Int32) &&& 31).toUInt32).toInt32) &&& (7 : Int32)).toInt64))), .second, .val (.long ((x0 - (4 : Int64)) + ((p3 &&& (31 : Int32)).toInt64))), .second, .unset, .unset, .unset, .unset, .unset, .unset, .unset, .unset, .unset, .unset] n0_73 rfl ?_
      refine w_lload X0 hx hby n0_75 rfl ?_
      refine w_lconst X0 hx hby (1 : Int64) n0_77 rfl ?_
      refine w_ladd X0 hx hby n0_78 ?_
      refine w_iload X0 hx hby n0_79 rfl ?_
      refine w_bipush X0 hx hby (31 : Int32) n0_81 rfl ?_
      refine w_iand X0 hx hby n0_83 ?_
      refine w_i2l X0 hx hby n0_84 ?_
      refine w_ladd X0 hx hby n0_85 ?_
      refine w_lstore X0 hx hby #[.val (.long x0), .second, .val (.int p2), .val (.int p3), .val (.int p4), .val (.int p5), .val (.long x0), .second, .val (.long ((x0 + (1 : Int64)) + ((p2 &&& (7 : Int32)).toInt64))), .second, .val (.long ((((x0 + (1 : Int64)) + ((p2 &&& (7 : Int32)).toInt64)) + (1 : Int64)) + ((((p2.toUInt32 >>> ((3 : Int32) &&& 31).toUInt32).toInt32) &&& (7 : Int32)).toInt64))), .second, .val (.long ((((((x0 + (1 : Int64)) + ((p2 &&& (7 : Int32)).toInt64)) + (1 : Int64)) + ((((p2.toUInt32 >>> ((3 : Int32) &&& 31).toUInt32).toInt32) &&& (7 : Int32)).toInt64)) + (1 : Int64)) + ((((p2.toUInt32 >>> ((6 : Int32) &&& 31).toUInt32).toInt32) &&& (7 : Int32)).toInt64))), .second, .val (.long ((x0 - (4 : Int64)) + ((p3 &&& (31 : Int32)).toInt64))), .second, .val (.long ((((x0 - (4 : Int64)) + ((p3 &&& (31 : Int32)).toInt64)) + (1 : Int64)) + ((p4 &&& (31 : Int32)).toInt64))), .second, .unset, .unset, .unset, .unset, .unset, .unset, .unset, .unset] n0_86 rfl ?_
      obtain ⟨u1, u2, u3, u4, u5⟩ := own_arith x0 p2 p3 p4 q12 q4
      exact tail88 l Z a0 hw x0 x0 ((x0 + (1 : Int64)) + ((p2 &&& (7 : Int32)).toInt64)) ((((x0 + (1 : Int64)) + ((p2 &&& (7 : Int32)).toInt64)) + (1 : Int64)) + ((((p2.toUInt32 >>> ((3 : Int32) &&& 31).toUInt32).toInt32) &&& (7 : Int32)).toInt64)) ((((((x0 + (1 : Int64)) + ((p2 &&& (7 : Int32)).toInt64)) + (1 : Int64)) + ((((p2.toUInt32 >>> ((3 : Int32) &&& 31).toUInt32).toInt32) &&& (7 : Int32)).toInt64)) + (1 : Int64)) + ((((p2.toUInt32 >>> ((6 : Int32) &&& 31).toUInt32).toInt32) &&& (7 : Int32)).toInt64)) ((x0 - (4 : Int64)) + ((p3 &&& (31 : Int32)).toInt64)) ((((x0 - (4 : Int64)) + ((p3 &&& (31 : Int32)).toInt64)) + (1 : Int64)) + ((p4 &&& (31 : Int32)).toInt64)) p2 p3 p4 p5 h0 X0 hx hby hml hown hret hlk hZ e0 u1 u2 u3 u4 u5
    · refine w_iconst X0 hx hby (1 : Int32) n0_16 rfl ?_
      refine w_retN X0 hx hby e0 hlk hret (by simp) n0_17 (by decide) (by decide) ?_
      exact ⟨rfl, (Fr.nil h0.size)⟩
set_option maxRecDepth 65536 in
set_option maxHeartbeats 40000000 in
theorem comes_1 {Post : Tables → Env → Array Value → State → Outcome → State → Prop} (hpost : ∀ tb e args s v u, (limb_1_1.after args s (.returned v) u = true ∧ limb_1_2.after args s (.returned v) u = true) → FrameEnd s (.returned v) u (Jvm.fieldLocs frame_1_writes args s ++ Jvm.arrayLocs frame_1_arrays args s ++ Jvm.staticLocs frame_1_statics s) 16 128 → Post tb e args s (.returned v) u) :
    ArmFor flags0 classFile x code maxLocals ret World_1 tables_1 room_1 Calls_1 rest_1 Pre_1 Post := by
  intro l hfl _ _ p e ha hc hk s m args below hf hA hF happ hP
  obtain ⟨hcalls, hrest, hpre⟩ := hP
  obtain ⟨-, -, -, hnamed, -, -, -, hat⟩ := (Spec.applies_iff hf).mp happ
  obtain ⟨hg, hn⟩ := and_e (Cond.before_iff.mp (show (Jvm.Cond.and given_1 narrow_1).before args s = true from hpre))
  obtain ⟨hcnt, hg⟩ := and_e hg
  obtain ⟨hg0, hg⟩ := and_e hg
  obtain ⟨hg1, hg⟩ := and_e hg
  obtain ⟨hg2, hg⟩ := and_e hg
  obtain ⟨hg3, hg⟩ := and_e hg
  have hg4 := hg
  obtain ⟨w0, w1, w2, w3, w4, rfl⟩ : ∃ w0 w1 w2 w3 w4 : Value, args = #[w0, w1, w2, w3, w4] := by
    have hs : args.size = 5 := by simpa [Cond.value, given_1] using hcnt
    obtain ⟨L⟩ := args
    match L, hs with
    | [w0, w1, w2, w3, w4], _ => exact ⟨w0, w1, w2, w3, w4, rfl⟩
  have hw := fun d (hd : d ∈ tables_1) => atoms_spec (ws := Jvm.Cond.code x code maxLocals ret :: tables_1) hat d (List.mem_cons_of_mem _ hd)
  have hfit : Fit s := fun {y c} hc i hi => by
    obtain ⟨ha, rfl⟩ := Array.getElem?_eq_some_iff.mp hc
    have q := List.all_eq_true.mp ((Array.all_eq_true_iff_forall_mem.mp hF) _ (Array.getElem_mem ha)) i (List.mem_range.mpr hi)
    simpa [Array.getElem?_eq_getElem hi] using q
  obtain ⟨i0, ei0⟩ := isL_v hg0
  obtain rfl : w0 = (.long i0) := Option.some.inj ei0
  obtain ⟨i1, ei1⟩ := is_v hg1
  obtain rfl : w1 = (.int i1) := Option.some.inj ei1
  obtain ⟨i2, ei2⟩ := is_v hg2
  obtain rfl : w2 = (.int i2) := Option.some.inj ei2
  obtain ⟨i3, ei3⟩ := is_v hg3
  obtain rfl : w3 = (.int i3) := Option.some.inj ei3
  obtain ⟨i4, ei4⟩ := is_v hg4
  obtain rfl : w4 = (.int i4) := Option.some.inj ei4
  obtain ⟨n, o, h1, h2, h3, _, L, rfl, ⟨rfl, N⟩, hq⟩ := law0 l s _ hw i0 i1 i2 i3 i4 s.heap tables_1 p e ha hc hk s m _ below hf ((Spec.applies_iff_loose hf).mp happ).1 ⟨rfl, State.Warmed39.refl s, rfl⟩ trivial
  exact ⟨n, _, h1, h2, h3, hpost _ _ _ _ _ _ ⟨Cond.after_iff.mpr rfl, Cond.after_iff.mpr (eq_i res_at (Term.int_eval (1)) rfl)⟩ ⟨hq.1, hq.2.1, (hq.2.2.sift fun y hy => Or.inr (N y hy)).mono (by decide) (by decide)⟩⟩
theorem main_1_1 : Claimed_1_1 := comes_1 fun _ _ _ _ _ _ h hF => ⟨h.1, hF⟩
theorem main_1_2 : Claimed_1_2 := comes_1 fun _ _ _ _ _ _ h hF => ⟨h.2, hF⟩
end Jvm.Pilot.@@N@@
namespace Jvm.Pilot.@@N@@
open Jvm Jvm.ClassFile Sem Op Lib Jvm.Free Jvm.Stand Jvm.Pilot.@@N@@.Jvm.D
/-! MADE BY PROGRAM (witnessworld.py) out of the Statement's table words and the real class files: 12 classes; the members and pool entries that the words name. The judged class is class 1, her method 4. -/
namespace start1
open Jvm.ClassFile
def u (s : String) : CpInfo := .utf8 (stringToUtf16 s)
/-- a pool by its gaps: so many unusable entries, then the entry; so many at the end -/
def gap : Nat → List CpInfo → List CpInfo
  | 0, r => r
  | n + 1, r => .unusable :: gap n r
def poolList (es : List (Nat × CpInfo)) (last : Nat) : List CpInfo := es.foldr (fun e r => gap e.1 (e.2 :: r)) (gap last [])
def pool (es : List (Nat × CpInfo)) (last : Nat) : Array CpInfo := ⟨poolList es last⟩
def fileOf (pool : Array CpInfo) (this : Nat) (attrs : Array Attribute := #[]) (ms : Array MethodInfo := #[]) (fl : Nat := 33) (sup : Nat := 0) (ifs : Array Nat := #[]) (fds : Array FieldInfo := #[]) : ClassFile where
  minorVersion := 0
  majorVersion := 65
  constantPool := pool
  accessFlags := fl
  thisClass := this
  superClass := sup
  interfaces := ifs
  fields := fds
  methods := ms
  attributes := attrs
def plain (name : String) (sup : Option ClassId) : Class where
  name := name
  kind := .ordinary
  loader := none
  accessFlags := 33
  super := sup
  interfaces := #[]
  cf := none
  fields := #[]
  methods := #[]
  instanceTypes := #[]
  staticTypes := #[]
  resolved := #[]
  callSites := []
  init := .initialized
  statics := none
  mirror := none

def pool0 : Array CpInfo := pool [(5, u "<init>"), (0, u "()V"), (1, .class_ 10), (1, u "java/lang/Object")] 113

def k0c0 : Code := { maxStack := 0, maxLocals := 1, code := object_method_1_code, exceptionTable := #[], attributes := #[] }
def k0m0 : Method := { name := "<init>", desc := "()V", sig := { parameters := [], returnType := none }, accessFlags := 1, code := some k0c0 }
/-- java/lang/Object -/
def k0 : Class := { plain "java/lang/Object" none with
  accessFlags := 33
  interfaces := #[]
  cf := some (fileOf pool0 8 #[] #[{ accessFlags := 1, nameIndex := 5, descriptorIndex := 6, attributes := #[] }] 33 0 #[] #[])
  fields := #[]
  methods := #[k0m0]
  instanceTypes := #[]
  staticTypes := #[]
  resolved := Array.replicate 124 none
  statics := none }

def pool1 : Array CpInfo := pool [(2, .class_ 4), (1, u "java/lang/Object"), (0, u "<init>"), (0, u "()V"), (2, .long 9223372036854775743), (1, .long 9223372036854775816), (1, .long 4), (1, .methodref 16 17), (0, .class_ 18), (0, .nameAndType 19 20), (0, u "com/example/panoptes/panoptes/CutsSecondPinLaw"), (0, u "le"), (0, u "(JJ)I"), (0, .methodref 16 22), (0, .nameAndType 23 20), (0, u "lt"), (0, .class_ 25), (0, u "com/example/panoptes/panoptes/Cuts"), (0, .methodref 24 27), (0, .nameAndType 5 28), (0, u "([JJJ)V"), (0, .integer 2147483647), (0, .methodref 16 31), (0, .nameAndType 32 33), (0, u "pick"), (0, u "(JJJJI)J"), (0, .methodref 24 35), (0, .nameAndType 36 37), (0, u "intervals"), (0, u "()I"), (0, .methodref 24 39), (0, .nameAndType 40 41), (0, u "second"), (0, u "(I)J"), (3, u "law"), (0, u "(JIIII)Z")] 4

def k1m0 : Method := { name := "<init>", desc := "()V", sig := { parameters := [], returnType := none }, accessFlags := 1, code := none }
def k1c1 : Code := { maxStack := 4, maxLocals := 4, code := method_2_code, exceptionTable := #[], attributes := #[] }
def k1m1 : Method := { name := "le", desc := "(JJ)I", sig := { parameters := [.long, .long], returnType := some .int }, accessFlags := 10, code := some k1c1 }
def k1c2 : Code := { maxStack := 4, maxLocals := 4, code := method_3_code, exceptionTable := #[], attributes := #[] }
def k1m2 : Method := { name := "lt", desc := "(JJ)I", sig := { parameters := [.long, .long], returnType := some .int }, accessFlags := 10, code := some k1c2 }
def k1c3 : Code := { maxStack := 2, maxLocals := 9, code := method_4_code, exceptionTable := #[], attributes := #[] }
def k1m3 : Method := { name := "pick", desc := "(JJJJI)J", sig := { parameters := [.long, .long, .long, .long, .int], returnType := some .long }, accessFlags := 10, code := some k1c3 }
def k1c4 : Code := { maxStack := 10, maxLocals := 26, code := code, exceptionTable := #[], attributes := #[] }
def k1m4 : Method := { name := "law", desc := "(JIIII)Z", sig := { parameters := [.long, .int, .int, .int, .int], returnType := some .boolean }, accessFlags := 9, code := some k1c4 }
/-- com/example/panoptes/panoptes/CutsSecondPinLaw -/
def k1 : Class := { plain "com/example/panoptes/panoptes/CutsSecondPinLaw" (some 0) with
  accessFlags := 49
  interfaces := #[]
  cf := some (fileOf pool1 16 #[] #[{ accessFlags := 1, nameIndex := 5, descriptorIndex := 6, attributes := #[] }, { accessFlags := 10, nameIndex := 19, descriptorIndex := 20, attributes := #[] }, { accessFlags := 10, nameIndex := 23, descriptorIndex := 20, attributes := #[] }, { accessFlags := 10, nameIndex := 32, descriptorIndex := 33, attributes := #[] }, { accessFlags := 9, nameIndex := 45, descriptorIndex := 46, attributes := #[] }] 49 2 #[] #[])
  fields := #[]
  methods := #[k1m0, k1m1, k1m2, k1m3, k1m4]
  instanceTypes := #[]
  staticTypes := #[]
  resolved := Array.replicate 51 none
  statics := none }

def pool2 : Array CpInfo := pool [(1, .methodref 2 3), (0, .class_ 4), (0, .nameAndType 5 6), (0, u "java/lang/Object"), (0, u "<init>"), (0, u "()V"), (0, .fieldref 8 9), (0, .class_ 10), (0, .nameAndType 11 12), (0, u "com/example/panoptes/panoptes/Cuts"), (0, u "timestamps"), (0, u "[J"), (0, .methodref 8 14), (0, .nameAndType 15 16), (0, u "firstNotBefore"), (0, u "([JIIJ)I"), (0, .fieldref 8 18), (0, .nameAndType 19 20), (0, u "inside"), (0, u "I"), (0, .fieldref 8 22), (0, .nameAndType 23 20), (0, u "intervals"), (0, .fieldref 8 25), (0, .nameAndType 26 27), (0, u "from"), (0, u "J"), (0, .fieldref 8 29), (0, .nameAndType 30 27), (0, u "to"), (0, .methodref 32 33), (0, .class_ 34), (0, .nameAndType 35 16), (0, u "java/util/Arrays"), (0, u "binarySearch"), (0, u "([JJJ)V"), (2, u "()I"), (0, u "second"), (0, u "(I)J")] 5

def k2c0 : Code := { maxStack := 8, maxLocals := 6, code := prog_6_method_1_code, exceptionTable := #[], attributes := #[] }
def k2m0 : Method := { name := "<init>", desc := "([JJJ)V", sig := { parameters := [(.array .long), .long, .long], returnType := none }, accessFlags := 0, code := some k2c0 }
def k2c1 : Code := { maxStack := 1, maxLocals := 1, code := prog_6_method_2_code, exceptionTable := #[], attributes := #[] }
def k2m1 : Method := { name := "intervals", desc := "()I", sig := { parameters := [], returnType := some .int }, accessFlags := 0, code := some k2c1 }
def k2c2 : Code := { maxStack := 3, maxLocals := 4, code := prog_6_method_3_code, exceptionTable := #[], attributes := #[] }
def k2m2 : Method := { name := "second", desc := "(I)J", sig := { parameters := [.int], returnType := some .long }, accessFlags := 0, code := some k2c2 }
def k2c3 : Code := { maxStack := 5, maxLocals := 6, code := prog_6_method_5_code, exceptionTable := #[], attributes := #[] }
def k2m3 : Method := { name := "firstNotBefore", desc := "([JIIJ)I", sig := { parameters := [(.array .long), .int, .int, .long], returnType := some .int }, accessFlags := 10, code := some k2c3 }
/-- com/example/panoptes/panoptes/Cuts -/
def k2 : Class := { plain "com/example/panoptes/panoptes/Cuts" (some 0) with
  accessFlags := 32
  interfaces := #[]
  cf := some (fileOf pool2 8 #[] #[{ accessFlags := 0, nameIndex := 5, descriptorIndex := 36, attributes := #[] }, { accessFlags := 0, nameIndex := 23, descriptorIndex := 39, attributes := #[] }, { accessFlags := 0, nameIndex := 40, descriptorIndex := 41, attributes := #[] }, { accessFlags := 10, nameIndex := 15, descriptorIndex := 16, attributes := #[] }] 32 2 #[] #[{ accessFlags := 18, nameIndex := 11, descriptorIndex := 12, attributes := #[] }, { accessFlags := 18, nameIndex := 19, descriptorIndex := 20, attributes := #[] }, { accessFlags := 18, nameIndex := 23, descriptorIndex := 20, attributes := #[] }, { accessFlags := 18, nameIndex := 26, descriptorIndex := 27, attributes := #[] }, { accessFlags := 18, nameIndex := 30, descriptorIndex := 27, attributes := #[] }])
  fields := #[{ name := "timestamps", type := (.array .long), accessFlags := 18, slot := 0, constantValue := 0 }, { name := "inside", type := .int, accessFlags := 18, slot := 1, constantValue := 0 }, { name := "intervals", type := .int, accessFlags := 18, slot := 2, constantValue := 0 }, { name := "from", type := .long, accessFlags := 18, slot := 3, constantValue := 0 }, { name := "to", type := .long, accessFlags := 18, slot := 4, constantValue := 0 }]
  methods := #[k2m0, k2m1, k2m2, k2m3]
  instanceTypes := #[(.array .long), .int, .int, .long, .long]
  staticTypes := #[]
  resolved := Array.replicate 47 none
  statics := none }

def pool3 : Array CpInfo := pool [(2, .class_ 4), (1, u "java/lang/Object"), (0, u "<init>"), (0, u "()V"), (6, .methodref 14 15), (0, .class_ 16), (0, .nameAndType 17 18), (0, u "java/util/Arrays"), (0, u "rangeCheck"), (0, u "(III)V"), (55, .class_ 76), (1, u "java/util/Arrays$NaturalOrder"), (36, .class_ 115), (1, u "java/util/Arrays$LegacyMergeSort"), (1, u "Z"), (87, .methodref 14 206), (0, .nameAndType 207 208), (0, u "binarySearch0"), (0, u "([JIIJ)I"), (166, .class_ 376), (0, u "java/util/Arrays$ArrayList"), (68, u "$assertionsDisabled"), (269, u "MIN_ARRAY_SORT_GRAN"), (0, u "I"), (2, u "INSERTIONSORT_THRESHOLD"), (74, u "binarySearch"), (180, .class_ 976), (0, u "java/util/Arrays$ArrayItr")] 52

def k3m0 : Method := { name := "<init>", desc := "()V", sig := { parameters := [], returnType := none }, accessFlags := 2, code := none }
def k3c1 : Code := { maxStack := 4, maxLocals := 3, code := jdk_65_method_30_code, exceptionTable := #[], attributes := #[] }
def k3m1 : Method := { name := "rangeCheck", desc := "(III)V", sig := { parameters := [.int, .int, .int], returnType := none }, accessFlags := 8, code := some k3c1 }
def k3c2 : Code := { maxStack := 5, maxLocals := 5, code := jdk_65_method_55_code, exceptionTable := #[], attributes := #[] }
def k3m2 : Method := { name := "binarySearch", desc := "([JIIJ)I", sig := { parameters := [(.array .long), .int, .int, .long], returnType := some .int }, accessFlags := 9, code := some k3c2 }
def k3c3 : Code := { maxStack := 4, maxLocals := 10, code := jdk_65_method_56_code, exceptionTable := #[], attributes := #[] }
def k3m3 : Method := { name := "binarySearch0", desc := "([JIIJ)I", sig := { parameters := [(.array .long), .int, .int, .long], returnType := some .int }, accessFlags := 10, code := some k3c3 }
/-- java/util/Arrays -/
def k3 : Class := { plain "java/util/Arrays" (some 0) with
  accessFlags := 49
  interfaces := #[]
  cf := some (fileOf pool3 14 #[.nestMembers #[975, 375, 113, 74]] #[{ accessFlags := 2, nameIndex := 5, descriptorIndex := 6, attributes := #[] }, { accessFlags := 8, nameIndex := 17, descriptorIndex := 18, attributes := #[] }, { accessFlags := 9, nameIndex := 794, descriptorIndex := 208, attributes := #[] }, { accessFlags := 10, nameIndex := 207, descriptorIndex := 208, attributes := #[] }] 49 2 #[] #[{ accessFlags := 26, nameIndex := 715, descriptorIndex := 716, attributes := #[] }, { accessFlags := 26, nameIndex := 719, descriptorIndex := 716, attributes := #[] }, { accessFlags := 4120, nameIndex := 445, descriptorIndex := 117, attributes := #[] }])
  fields := #[{ name := "MIN_ARRAY_SORT_GRAN", type := .int, accessFlags := 26, slot := 0, constantValue := 0 }, { name := "INSERTIONSORT_THRESHOLD", type := .int, accessFlags := 26, slot := 1, constantValue := 0 }, { name := "$assertionsDisabled", type := .boolean, accessFlags := 4120, slot := 2, constantValue := 0 }]
  methods := #[k3m0, k3m1, k3m2, k3m3]
  instanceTypes := #[]
  staticTypes := #[.int, .int, .boolean]
  resolved := Array.replicate 1029 none
  statics := none }

def pool4 : Array CpInfo := pool [(1, u "java/lang/Cloneable"), (0, .class_ 1), (0, u "java/lang/Object"), (0, .class_ 3)] 3

/-- java/lang/Cloneable -/
def k4 : Class := { plain "java/lang/Cloneable" (some 0) with
  accessFlags := 1537
  interfaces := #[]
  cf := some (fileOf pool4 2 #[] #[] 1537 4 #[] #[])
  fields := #[]
  methods := #[]
  instanceTypes := #[]
  staticTypes := #[]
  resolved := Array.replicate 8 none
  statics := none }

def pool5 : Array CpInfo := pool [(1, u "java/io/Serializable"), (0, .class_ 1), (0, u "java/lang/Object"), (0, .class_ 3)] 3

/-- java/io/Serializable -/
def k5 : Class := { plain "java/io/Serializable" (some 0) with
  accessFlags := 1537
  interfaces := #[]
  cf := some (fileOf pool5 2 #[] #[] 1537 4 #[] #[])
  fields := #[]
  methods := #[]
  instanceTypes := #[]
  staticTypes := #[]
  resolved := Array.replicate 8 none
  statics := none }

/-- the primitive byte -/
def k6 : Class := { plain "byte" none with kind := .primitive 'B', accessFlags := 0x411 }
/-- [B -/
def k7 : Class := { plain "[B" (some 0) with kind := .array 6 .byte, interfaces := #[4, 5], accessFlags := 1041 }

/-- the primitive int -/
def k8 : Class := { plain "int" none with kind := .primitive 'I', accessFlags := 0x411 }
/-- [I -/
def k9 : Class := { plain "[I" (some 0) with kind := .array 8 .int, interfaces := #[4, 5], accessFlags := 1041 }

/-- the primitive long -/
def k10 : Class := { plain "long" none with kind := .primitive 'J', accessFlags := 0x411 }
/-- [J -/
def k11 : Class := { plain "[J" (some 0) with kind := .array 10 .long, interfaces := #[4, 5], accessFlags := 1041 }

def heap : Heap := #[]
def classes : Array Class := #[k0, k1, k2, k3, k4, k5, k6, k7, k8, k9, k10, k11]
def interned : List (Array UInt16 × Addr) := []
def slotsUsed : Nat := 0
def theMethod : MethodId := ⟨1, 4⟩
def args0 : Array Value := #[.long 1, .int 1, .int 2, .int 3, .int 5]
def aboutOver (below : List Frame) : State where
  vm := { classes := classes, interned := interned.toArray }
  heap := heap
  slotsUsed := slotsUsed
  threads := #[{ frames := .invoking theMethod args0 :: below }]
def below0 : List Frame := [.native { method := ⟨0, 0⟩, args := #[] }]
def about1 : State := aboutOver below0
def p0 : Program := .bare "" "" ""
def e0 : Env := launch0.env 0 0 0
theorem w_frames : about1.frames = Frame.invoking theMethod args0 :: below0 := rfl
set_option maxRecDepth 65536 in
theorem w_args : argsFit about1.vm theMethod args0 = true := by decide +kernel
set_option maxRecDepth 65536 in
theorem w_heap : heapFits about1 = true := by decide +kernel
set_option maxRecDepth 65536 in
theorem w_runnable : about1.curStatus? = some .runnable := by decide +kernel
set_option maxRecDepth 65536 in
theorem w_alone : about1.alone = true := by decide +kernel
set_option maxRecDepth 65536 in
theorem w_named : about1.methodNamed? x = some theMethod := by decide +kernel
set_option maxRecDepth 65536 in
theorem w_hears : about1.hears theMethod below0 = true := by decide +kernel
set_option maxRecDepth 65536 in
theorem w_ripe : about1.ripe theMethod args0 below0 = true := by decide +kernel
theorem w_running : about1.status = .running := rfl
set_option maxRecDepth 65536 in
theorem w_room : about1.hasRoom e0.platform room_1 = true :=
  launch0.hasRoom_least _ room_1 (by decide +kernel) (by decide +kernel) (by decide +kernel) (by decide +kernel) (by decide +kernel) (by decide +kernel)
theorem allAtoms_all (ts : List Jvm.Cond) (a : Array Jvm.Value) (st : Jvm.State) : (allAtoms ts).before a st = ts.all (fun c => c.before a st) := by
  induction ts with
  | nil => rfl
  | cons c t ih =>
    show (Jvm.Cond.and c (allAtoms t)).before a st = _
    rw [Jvm.Cond.before_and, ih, List.all_cons]
def words1 : List Jvm.Cond := Jvm.Cond.code x code maxLocals ret :: tables_1
/-- a 'code' word, met by the world's own term for the bytes: nothing is compared byte by byte -/
theorem code_word {y : MethodName} {bytes : ByteArray} {mx : Nat} {rt : Option FieldType} {a : Array Value} {s : State} {m : MethodId} {meth : Method} {c : Code} (h1 : s.methodNamed? y = some m) (h2 : s.vm.method? m = some meth) (h3 : meth.code = some c) (h4 : c.code = bytes)
    (h5 : (c.maxLocals == mx && c.exceptionTable.isEmpty && decide (c.maxStack ≤ mostOperands) && decide (meth.sig.returnType = rt) && !meth.locks && decide (parseMethodDescriptor y.desc = some meth.sig)) = true) : (Jvm.Cond.code y bytes mx rt).before a s = true := by
  simp only [Bool.and_eq_true, beq_iff_eq, Bool.not_eq_true', decide_eq_true_eq] at h5
  obtain ⟨⟨⟨⟨⟨g1, g2⟩, g3⟩, g4⟩, g5⟩, g6⟩ := h5
  simp [Cond.before, Cond.holds, Cond.value, h1, h2, h3, h4, g1, g2, g3, g4, g5, g6]
def isCode : Jvm.Cond → Bool
  | .code _ _ _ _ => true
  | _ => false
theorem all_split {L : List Jvm.Cond} {P : Jvm.Cond → Bool} (h1 : L.all (fun c => isCode c || P c) = true) (h2 : ∀ c ∈ L.filter isCode, P c = true) : L.all P = true := by
  refine List.all_eq_true.mpr fun c hc => ?_
  have h := List.all_eq_true.mp h1 c hc
  rcases Bool.eq_false_or_eq_true (isCode c) with hi | hi
  · exact h2 c (List.mem_filter.mpr ⟨hc, hi⟩)
  · simpa [hi] using h
set_option maxRecDepth 65536 in
theorem w_c0 : (Jvm.Cond.code x code maxLocals ret).before args0 about1 = true := code_word (m := ⟨1, 4⟩) (meth := k1m4) (c := k1c4) (by decide +kernel) rfl rfl rfl (by decide +kernel)
set_option maxRecDepth 65536 in
theorem w_c1 : (Jvm.Cond.code ({ cls := "com/example/panoptes/panoptes/CutsSecondPinLaw", name := "le", desc := "(JJ)I" } : Jvm.MethodName) method_2_code (4 : Nat) (Option.some Jvm.ClassFile.FieldType.int)).before args0 about1 = true := code_word (m := ⟨1, 1⟩) (meth := k1m1) (c := k1c1) (by decide +kernel) rfl rfl rfl (by decide +kernel)
set_option maxRecDepth 65536 in
theorem w_c2 : (Jvm.Cond.code ({ cls := "com/example/panoptes/panoptes/CutsSecondPinLaw", name := "lt", desc := "(JJ)I" } : Jvm.MethodName) method_3_code (4 : Nat) (Option.some Jvm.ClassFile.FieldType.int)).before args0 about1 = true := code_word (m := ⟨1, 2⟩) (meth := k1m2) (c := k1c2) (by decide +kernel) rfl rfl rfl (by decide +kernel)
set_option maxRecDepth 65536 in
theorem w_c3 : (Jvm.Cond.code ({ cls := "com/example/panoptes/panoptes/Cuts", name := "<init>", desc := "([JJJ)V" } : Jvm.MethodName) prog_6_method_1_code (6 : Nat) (Option.none : Option Jvm.ClassFile.FieldType)).before args0 about1 = true := code_word (m := ⟨2, 0⟩) (meth := k2m0) (c := k2c0) (by decide +kernel) rfl rfl rfl (by decide +kernel)
set_option maxRecDepth 65536 in
theorem w_c4 : (Jvm.Cond.code ({ cls := "java/lang/Object", name := "<init>", desc := "()V" } : Jvm.MethodName) object_method_1_code (1 : Nat) (Option.none : Option Jvm.ClassFile.FieldType)).before args0 about1 = true := code_word (m := ⟨0, 0⟩) (meth := k0m0) (c := k0c0) (by decide +kernel) rfl rfl rfl (by decide +kernel)
set_option maxRecDepth 65536 in
theorem w_c5 : (Jvm.Cond.code ({ cls := "com/example/panoptes/panoptes/Cuts", name := "firstNotBefore", desc := "([JIIJ)I" } : Jvm.MethodName) prog_6_method_5_code (6 : Nat) (Option.some Jvm.ClassFile.FieldType.int)).before args0 about1 = true := code_word (m := ⟨2, 3⟩) (meth := k2m3) (c := k2c3) (by decide +kernel) rfl rfl rfl (by decide +kernel)
set_option maxRecDepth 65536 in
theorem w_c6 : (Jvm.Cond.code ({ cls := "java/util/Arrays", name := "binarySearch", desc := "([JIIJ)I" } : Jvm.MethodName) jdk_65_method_55_code (5 : Nat) (Option.some Jvm.ClassFile.FieldType.int)).before args0 about1 = true := code_word (m := ⟨3, 2⟩) (meth := k3m2) (c := k3c2) (by decide +kernel) rfl rfl rfl (by decide +kernel)
set_option maxRecDepth 65536 in
theorem w_c7 : (Jvm.Cond.code ({ cls := "java/util/Arrays", name := "rangeCheck", desc := "(III)V" } : Jvm.MethodName) jdk_65_method_30_code (3 : Nat) (Option.none : Option Jvm.ClassFile.FieldType)).before args0 about1 = true := code_word (m := ⟨3, 1⟩) (meth := k3m1) (c := k3c1) (by decide +kernel) rfl rfl rfl (by decide +kernel)
set_option maxRecDepth 65536 in
theorem w_c8 : (Jvm.Cond.code ({ cls := "java/util/Arrays", name := "binarySearch0", desc := "([JIIJ)I" } : Jvm.MethodName) jdk_65_method_56_code (10 : Nat) (Option.some Jvm.ClassFile.FieldType.int)).before args0 about1 = true := code_word (m := ⟨3, 3⟩) (meth := k3m3) (c := k3c3) (by decide +kernel) rfl rfl rfl (by decide +kernel)
set_option maxRecDepth 65536 in
theorem w_c9 : (Jvm.Cond.code ({ cls := "com/example/panoptes/panoptes/Cuts", name := "intervals", desc := "()I" } : Jvm.MethodName) prog_6_method_2_code (1 : Nat) (Option.some Jvm.ClassFile.FieldType.int)).before args0 about1 = true := code_word (m := ⟨2, 1⟩) (meth := k2m1) (c := k2c1) (by decide +kernel) rfl rfl rfl (by decide +kernel)
set_option maxRecDepth 65536 in
theorem w_c10 : (Jvm.Cond.code ({ cls := "com/example/panoptes/panoptes/Cuts", name := "second", desc := "(I)J" } : Jvm.MethodName) prog_6_method_3_code (4 : Nat) (Option.some Jvm.ClassFile.FieldType.long)).before args0 about1 = true := code_word (m := ⟨2, 2⟩) (meth := k2m2) (c := k2c2) (by decide +kernel) rfl rfl rfl (by decide +kernel)
set_option maxRecDepth 65536 in
theorem w_c11 : (Jvm.Cond.code ({ cls := "com/example/panoptes/panoptes/CutsSecondPinLaw", name := "pick", desc := "(JJJJI)J" } : Jvm.MethodName) method_4_code (9 : Nat) (Option.some Jvm.ClassFile.FieldType.long)).before args0 about1 = true := code_word (m := ⟨1, 3⟩) (meth := k1m3) (c := k1c3) (by decide +kernel) rfl rfl rfl (by decide +kernel)
def codes1 : List Jvm.Cond := [Jvm.Cond.code x code maxLocals ret, Jvm.Cond.code ({ cls := "com/example/panoptes/panoptes/CutsSecondPinLaw", name := "le", desc := "(JJ)I" } : Jvm.MethodName) method_2_code (4 : Nat) (Option.some Jvm.ClassFile.FieldType.int), Jvm.Cond.code ({ cls := "com/example/panoptes/panoptes/CutsSecondPinLaw", name := "lt", desc := "(JJ)I" } : Jvm.MethodName) method_3_code (4 : Nat) (Option.some Jvm.ClassFile.FieldType.int), Jvm.Cond.code ({ cls := "com/example/panoptes/panoptes/Cuts", name := "<init>", desc := "([JJJ)V" } : Jvm.MethodName) prog_6_method_1_code (6 : Nat) (Option.none : Option Jvm.ClassFile.FieldType), Jvm.Cond.code ({ cls := "java/lang/Object", name := "<init>", desc := "()V" } : Jvm.MethodName) object_method_1_code (1 : Nat) (Option.none : Option Jvm.ClassFile.FieldType), Jvm.Cond.code ({ cls := "com/example/panoptes/panoptes/Cuts", name := "firstNotBefore", desc := "([JIIJ)I" } : Jvm.MethodName) prog_6_method_5_code (6 : Nat) (Option.some Jvm.ClassFile.FieldType.int), Jvm.Cond.code ({ cls := "java/util/Arrays", name := "binarySearch", desc := "([JIIJ)I" } : Jvm.MethodName) jdk_65_method_55_code (5 : Nat) (Option.some Jvm.ClassFile.FieldType.int), Jvm.Cond.code ({ cls := "java/util/Arrays", name := "rangeCheck", desc := "(III)V" } : Jvm.MethodName) jdk_65_method_30_code (3 : Nat) (Option.none : Option Jvm.ClassFile.FieldType), Jvm.Cond.code ({ cls := "java/util/Arrays", name := "binarySearch0", desc := "([JIIJ)I" } : Jvm.MethodName) jdk_65_method_56_code (10 : Nat) (Option.some Jvm.ClassFile.FieldType.int), Jvm.Cond.code ({ cls := "com/example/panoptes/panoptes/Cuts", name := "intervals", desc := "()I" } : Jvm.MethodName) prog_6_method_2_code (1 : Nat) (Option.some Jvm.ClassFile.FieldType.int), Jvm.Cond.code ({ cls := "com/example/panoptes/panoptes/Cuts", name := "second", desc := "(I)J" } : Jvm.MethodName) prog_6_method_3_code (4 : Nat) (Option.some Jvm.ClassFile.FieldType.long), Jvm.Cond.code ({ cls := "com/example/panoptes/panoptes/CutsSecondPinLaw", name := "pick", desc := "(JJJJI)J" } : Jvm.MethodName) method_4_code (9 : Nat) (Option.some Jvm.ClassFile.FieldType.long)]
set_option maxRecDepth 65536 in
theorem codes_eq : words1.filter isCode = codes1 := rfl
theorem w_codes : ∀ c ∈ words1.filter isCode, c.before args0 about1 = true := by
  rw [codes_eq]
  intro c hc
  simp only [codes1, List.mem_cons, List.not_mem_nil, or_false] at hc
  rcases hc with rfl | rfl | rfl | rfl | rfl | rfl | rfl | rfl | rfl | rfl | rfl | rfl
  · exact w_c0
  · exact w_c1
  · exact w_c2
  · exact w_c3
  · exact w_c4
  · exact w_c5
  · exact w_c6
  · exact w_c7
  · exact w_c8
  · exact w_c9
  · exact w_c10
  · exact w_c11
set_option maxRecDepth 65536 in
theorem w_t1 : (words1.take 24).all (fun c => isCode c || c.before args0 about1) = true := by decide +kernel
set_option maxRecDepth 65536 in
theorem w_t2 : ((words1.drop 24).take 24).all (fun c => isCode c || c.before args0 about1) = true := by decide +kernel
set_option maxRecDepth 65536 in
theorem w_t3 : ((words1.drop 24).drop 24).all (fun c => isCode c || c.before args0 about1) = true := by decide +kernel
theorem w_tables : (allAtoms (Jvm.Cond.code x code maxLocals ret :: tables_1)).before args0 about1 = true := by
  rw [allAtoms_all]
  show words1.all (fun c => c.before args0 about1) = true
  refine all_split ?_ w_codes
  rw [← List.take_append_drop 24 words1, List.all_append, w_t1, ← List.take_append_drop 24 (words1.drop 24), List.all_append, w_t2, w_t3]
  rfl
set_option maxRecDepth 65536 in
theorem w_case : (Jvm.Cond.and given_1 narrow_1).before args0 about1 = true := by decide +kernel
theorem w_applies : (headSpec (Jvm.Cond.code x code maxLocals ret :: tables_1) room_1).applies x e0.platform about1 = true :=
  (Spec.applies_iff w_frames).mpr ⟨w_running, w_runnable, w_alone, w_named, w_hears, w_ripe, w_room, w_tables⟩
theorem atStart : AtStart classFile x code maxLocals ret World_1 tables_1 room_1 Calls_1 rest_1 Pre_1 launch0 p0 e0 about1 theMethod args0 below0 :=
  ⟨lists_1, trivial, launch0.admits_env _ _ _, launch0.least_env, fairChoices_fair.cas, fairChoices_fair.clock, w_frames, w_args, w_heap, w_applies, trivial, trivial, w_case⟩
end start1
theorem witness_1 : WitnessClaimed_1 := ⟨start1.p0, start1.e0, start1.about1, start1.theMethod, start1.args0, start1.below0, start1.atStart⟩
end Jvm.Pilot.@@N@@
