import JvmDerived
import JvmDerived.Pilot.@@N@@Statement
import JvmDerived.Pilot.@@N@@Code
set_option linter.unusedVariables false
set_option linter.unusedSimpArgs false
namespace Jvm.Pilot.@@N@@
open Jvm Jvm.ClassFile Sem Op Lib Jvm.Free Jvm.Stand Jvm.LawKit Jvm.RoadKit Bundle Jvm.Pilot.@@N@@.Jvm.D
section OwnKit
variable {p : Program} {l : Launch} {e : Env} {R : Room} {s : State} {m : MethodId} {args : Array Value} {below : List Frame} {meth : Method} {c : Code} {T : State} {locs : List Loc} {cells slots : Nat} {Z : State} {a0 : Array Value} {h : Heap} {K N : Nat} {Q : Option Value → Heap → List Loc → Prop} {pc nx tg : Nat} {Ls : Array Slot} {st : List Value} {bs : ByteArray} {o : Int}
/-- from the frame g at T the run ends, returning, as Q says -/
def Wp (p : Program) (e : Env) (below : List Frame) (s : State) (K N : Nat) (Q : Option Value → Heap → List Loc → Prop) (T : State) (g : JFrame) : Prop :=
  ∃ s₂ o, Steps p.tables e below (T.setTop g) s₂ ∧ s₂.status = .running ∧ Ended s₂ below o ∧ ∃ v L, o = .returned v ∧ Q v s₂.heap L ∧ FrameEnd s o s₂ L K N
theorem Wp.go {T' : State} {g g' : JFrame} (st : ∀ target, Steps p.tables e below (T'.setTop g') target → Steps p.tables e below (T.setTop g) target) (k : Wp p e below s K N Q T' g') : Wp p e below s K N Q T g := by
  obtain ⟨s₂, o, h1, h2⟩ := k; exact ⟨s₂, o, st _ h1, h2⟩
theorem Wp.tr {T' : State} {g g' : JFrame} (st : Steps p.tables e below (T.setTop g) (T'.setTop g')) (k : Wp p e below s K N Q T' g') : Wp p e below s K N Q T g := by
  obtain ⟨s₂, o, h1, h2⟩ := k; exact ⟨s₂, o, st.trans h1, h2⟩
/-- the instruction i, len bytes long, stands at pc; the next one at nx -/
def In (bs : ByteArray) (pc : Nat) (i : Instr) (len nx : Nat) : Prop := decode bs pc = .ok (i, len) ∧ pc + len = nx
/-- a jump by o: the next one at nx, the target at tg -/
def Jm (bs : ByteArray) (pc : Nat) (i : Instr) (o : Int) (nx tg : Nat) : Prop := decode bs pc = .ok (i, 3) ∧ pc + 3 = nx ∧ 0 ≤ (pc : Int) + o ∧ ((pc : Int) + o).toNat = tg

theorem w_iadd (X : Stand p l e R s m args below meth c T locs cells slots) (hx : p.tables.exec = Jvm.exec) (hby : c.code = bs) {x y : Int32} (hd : In bs pc (.iadd) 1 nx) (k : Wp p e below s K N Q T (mkF m nx Ls (.int (x + y) :: st))) : Wp p e below s K N Q T (mkF m pc Ls (.int y :: .int x :: st)) := by
  obtain ⟨d, rfl⟩ := hd; exact Wp.go (fun t kk => XS.iadd X.here hx rfl (hb hby d) rfl kk) k
theorem w_isub (X : Stand p l e R s m args below meth c T locs cells slots) (hx : p.tables.exec = Jvm.exec) (hby : c.code = bs) {x y : Int32} (hd : In bs pc (.isub) 1 nx) (k : Wp p e below s K N Q T (mkF m nx Ls (.int (x - y) :: st))) : Wp p e below s K N Q T (mkF m pc Ls (.int y :: .int x :: st)) := by
  obtain ⟨d, rfl⟩ := hd; exact Wp.go (fun t kk => XS.isub X.here hx rfl (hb hby d) rfl kk) k
theorem w_iand (X : Stand p l e R s m args below meth c T locs cells slots) (hx : p.tables.exec = Jvm.exec) (hby : c.code = bs) {x y : Int32} (hd : In bs pc (.iand) 1 nx) (k : Wp p e below s K N Q T (mkF m nx Ls (.int (x &&& y) :: st))) : Wp p e below s K N Q T (mkF m pc Ls (.int y :: .int x :: st)) := by
  obtain ⟨d, rfl⟩ := hd; exact Wp.go (fun t kk => XS.iand X.here hx rfl (hb hby d) rfl kk) k
theorem w_imul (X : Stand p l e R s m args below meth c T locs cells slots) (hx : p.tables.exec = Jvm.exec) (hby : c.code = bs) {x y : Int32} (hd : In bs pc (.imul) 1 nx) (k : Wp p e below s K N Q T (mkF m nx Ls (.int (x * y) :: st))) : Wp p e below s K N Q T (mkF m pc Ls (.int y :: .int x :: st)) := by
  obtain ⟨d, rfl⟩ := hd; exact Wp.go (fun t kk => XS.imul X.here hx rfl (hb hby d) rfl kk) k
theorem w_ior (X : Stand p l e R s m args below meth c T locs cells slots) (hx : p.tables.exec = Jvm.exec) (hby : c.code = bs) {x y : Int32} (hd : In bs pc (.ior) 1 nx) (k : Wp p e below s K N Q T (mkF m nx Ls (.int (x ||| y) :: st))) : Wp p e below s K N Q T (mkF m pc Ls (.int y :: .int x :: st)) := by
  obtain ⟨d, rfl⟩ := hd; exact Wp.go (fun t kk => XS.ior X.here hx rfl (hb hby d) rfl kk) k
theorem w_ixor (X : Stand p l e R s m args below meth c T locs cells slots) (hx : p.tables.exec = Jvm.exec) (hby : c.code = bs) {x y : Int32} (hd : In bs pc (.ixor) 1 nx) (k : Wp p e below s K N Q T (mkF m nx Ls (.int (x ^^^ y) :: st))) : Wp p e below s K N Q T (mkF m pc Ls (.int y :: .int x :: st)) := by
  obtain ⟨d, rfl⟩ := hd; exact Wp.go (fun t kk => XS.ixor X.here hx rfl (hb hby d) rfl kk) k
theorem w_ishl (X : Stand p l e R s m args below meth c T locs cells slots) (hx : p.tables.exec = Jvm.exec) (hby : c.code = bs) {x y : Int32} (hd : In bs pc (.ishl) 1 nx) (k : Wp p e below s K N Q T (mkF m nx Ls (.int (x <<< (y &&& 31)) :: st))) : Wp p e below s K N Q T (mkF m pc Ls (.int y :: .int x :: st)) := by
  obtain ⟨d, rfl⟩ := hd; exact Wp.go (fun t kk => XS.ishl X.here hx rfl (hb hby d) rfl kk) k
theorem w_ishr (X : Stand p l e R s m args below meth c T locs cells slots) (hx : p.tables.exec = Jvm.exec) (hby : c.code = bs) {x y : Int32} (hd : In bs pc (.ishr) 1 nx) (k : Wp p e below s K N Q T (mkF m nx Ls (.int (x >>> (y &&& 31)) :: st))) : Wp p e below s K N Q T (mkF m pc Ls (.int y :: .int x :: st)) := by
  obtain ⟨d, rfl⟩ := hd; exact Wp.go (fun t kk => XS.ishr X.here hx rfl (hb hby d) rfl kk) k
theorem w_iushr (X : Stand p l e R s m args below meth c T locs cells slots) (hx : p.tables.exec = Jvm.exec) (hby : c.code = bs) {x y : Int32} (hd : In bs pc (.iushr) 1 nx) (k : Wp p e below s K N Q T (mkF m nx Ls (.int ((x.toUInt32 >>> (y &&& 31).toUInt32).toInt32) :: st))) : Wp p e below s K N Q T (mkF m pc Ls (.int y :: .int x :: st)) := by
  obtain ⟨d, rfl⟩ := hd; exact Wp.go (fun t kk => XS.iushr X.here hx rfl (hb hby d) rfl kk) k
theorem w_ladd (X : Stand p l e R s m args below meth c T locs cells slots) (hx : p.tables.exec = Jvm.exec) (hby : c.code = bs) {x y : Int64} (hd : In bs pc (.ladd) 1 nx) (k : Wp p e below s K N Q T (mkF m nx Ls (.long (x + y) :: st))) : Wp p e below s K N Q T (mkF m pc Ls (.long y :: .long x :: st)) := by
  obtain ⟨d, rfl⟩ := hd; exact Wp.go (fun t kk => XS.ladd X.here hx rfl (hb hby d) rfl kk) k
theorem w_lsub (X : Stand p l e R s m args below meth c T locs cells slots) (hx : p.tables.exec = Jvm.exec) (hby : c.code = bs) {x y : Int64} (hd : In bs pc (.lsub) 1 nx) (k : Wp p e below s K N Q T (mkF m nx Ls (.long (x - y) :: st))) : Wp p e below s K N Q T (mkF m pc Ls (.long y :: .long x :: st)) := by
  obtain ⟨d, rfl⟩ := hd; exact Wp.go (fun t kk => XS.lsub X.here hx rfl (hb hby d) rfl kk) k
theorem w_land (X : Stand p l e R s m args below meth c T locs cells slots) (hx : p.tables.exec = Jvm.exec) (hby : c.code = bs) {x y : Int64} (hd : In bs pc (.land) 1 nx) (k : Wp p e below s K N Q T (mkF m nx Ls (.long (x &&& y) :: st))) : Wp p e below s K N Q T (mkF m pc Ls (.long y :: .long x :: st)) := by
  obtain ⟨d, rfl⟩ := hd; exact Wp.go (fun t kk => XS.land X.here hx rfl (hb hby d) rfl kk) k
theorem w_lmul (X : Stand p l e R s m args below meth c T locs cells slots) (hx : p.tables.exec = Jvm.exec) (hby : c.code = bs) {x y : Int64} (hd : In bs pc (.lmul) 1 nx) (k : Wp p e below s K N Q T (mkF m nx Ls (.long (x * y) :: st))) : Wp p e below s K N Q T (mkF m pc Ls (.long y :: .long x :: st)) := by
  obtain ⟨d, rfl⟩ := hd; exact Wp.go (fun t kk => XS.lmul X.here hx rfl (hb hby d) rfl kk) k
theorem w_lor (X : Stand p l e R s m args below meth c T locs cells slots) (hx : p.tables.exec = Jvm.exec) (hby : c.code = bs) {x y : Int64} (hd : In bs pc (.lor) 1 nx) (k : Wp p e below s K N Q T (mkF m nx Ls (.long (x ||| y) :: st))) : Wp p e below s K N Q T (mkF m pc Ls (.long y :: .long x :: st)) := by
  obtain ⟨d, rfl⟩ := hd; exact Wp.go (fun t kk => XS.lor X.here hx rfl (hb hby d) rfl kk) k
theorem w_lxor (X : Stand p l e R s m args below meth c T locs cells slots) (hx : p.tables.exec = Jvm.exec) (hby : c.code = bs) {x y : Int64} (hd : In bs pc (.lxor) 1 nx) (k : Wp p e below s K N Q T (mkF m nx Ls (.long (x ^^^ y) :: st))) : Wp p e below s K N Q T (mkF m pc Ls (.long y :: .long x :: st)) := by
  obtain ⟨d, rfl⟩ := hd; exact Wp.go (fun t kk => XS.lxor X.here hx rfl (hb hby d) rfl kk) k
theorem w_lshl (X : Stand p l e R s m args below meth c T locs cells slots) (hx : p.tables.exec = Jvm.exec) (hby : c.code = bs) {x : Int64} {y : Int32} (hd : In bs pc (.lshl) 1 nx) (k : Wp p e below s K N Q T (mkF m nx Ls (.long (x <<< (y &&& 0x3f).toInt64) :: st))) : Wp p e below s K N Q T (mkF m pc Ls (.int y :: .long x :: st)) := by
  obtain ⟨d, rfl⟩ := hd; exact Wp.go (fun t kk => XS.lshl X.here hx rfl (hb hby d) rfl kk) k
theorem w_lshr (X : Stand p l e R s m args below meth c T locs cells slots) (hx : p.tables.exec = Jvm.exec) (hby : c.code = bs) {x : Int64} {y : Int32} (hd : In bs pc (.lshr) 1 nx) (k : Wp p e below s K N Q T (mkF m nx Ls (.long (x >>> (y &&& 0x3f).toInt64) :: st))) : Wp p e below s K N Q T (mkF m pc Ls (.int y :: .long x :: st)) := by
  obtain ⟨d, rfl⟩ := hd; exact Wp.go (fun t kk => XS.lshr X.here hx rfl (hb hby d) rfl kk) k
theorem w_lushr (X : Stand p l e R s m args below meth c T locs cells slots) (hx : p.tables.exec = Jvm.exec) (hby : c.code = bs) {x : Int64} {y : Int32} (hd : In bs pc (.lushr) 1 nx) (k : Wp p e below s K N Q T (mkF m nx Ls (.long ((x.toUInt64 >>> (y &&& 0x3f).toInt64.toUInt64).toInt64) :: st))) : Wp p e below s K N Q T (mkF m pc Ls (.int y :: .long x :: st)) := by
  obtain ⟨d, rfl⟩ := hd; exact Wp.go (fun t kk => XS.lushr X.here hx rfl (hb hby d) rfl kk) k
theorem w_i2b (X : Stand p l e R s m args below meth c T locs cells slots) (hx : p.tables.exec = Jvm.exec) (hby : c.code = bs) {x : Int32} (hd : In bs pc (.i2b) 1 nx) (k : Wp p e below s K N Q T (mkF m nx Ls (.int (x.toInt8.toInt32) :: st))) : Wp p e below s K N Q T (mkF m pc Ls (.int x :: st)) := by
  obtain ⟨d, rfl⟩ := hd; exact Wp.go (fun t kk => XS.i2b X.here hx rfl (hb hby d) rfl kk) k
theorem w_i2c (X : Stand p l e R s m args below meth c T locs cells slots) (hx : p.tables.exec = Jvm.exec) (hby : c.code = bs) {x : Int32} (hd : In bs pc (.i2c) 1 nx) (k : Wp p e below s K N Q T (mkF m nx Ls (.int (x.toUInt32.toUInt16.toUInt32.toInt32) :: st))) : Wp p e below s K N Q T (mkF m pc Ls (.int x :: st)) := by
  obtain ⟨d, rfl⟩ := hd; exact Wp.go (fun t kk => XS.i2c X.here hx rfl (hb hby d) rfl kk) k
theorem w_i2s (X : Stand p l e R s m args below meth c T locs cells slots) (hx : p.tables.exec = Jvm.exec) (hby : c.code = bs) {x : Int32} (hd : In bs pc (.i2s) 1 nx) (k : Wp p e below s K N Q T (mkF m nx Ls (.int (x.toInt16.toInt32) :: st))) : Wp p e below s K N Q T (mkF m pc Ls (.int x :: st)) := by
  obtain ⟨d, rfl⟩ := hd; exact Wp.go (fun t kk => XS.i2s X.here hx rfl (hb hby d) rfl kk) k
theorem w_ineg (X : Stand p l e R s m args below meth c T locs cells slots) (hx : p.tables.exec = Jvm.exec) (hby : c.code = bs) {x : Int32} (hd : In bs pc (.ineg) 1 nx) (k : Wp p e below s K N Q T (mkF m nx Ls (.int (-x) :: st))) : Wp p e below s K N Q T (mkF m pc Ls (.int x :: st)) := by
  obtain ⟨d, rfl⟩ := hd; exact Wp.go (fun t kk => XS.ineg X.here hx rfl (hb hby d) rfl kk) k
theorem w_i2l (X : Stand p l e R s m args below meth c T locs cells slots) (hx : p.tables.exec = Jvm.exec) (hby : c.code = bs) {x : Int32} (hd : In bs pc (.i2l) 1 nx) (k : Wp p e below s K N Q T (mkF m nx Ls (.long x.toInt64 :: st))) : Wp p e below s K N Q T (mkF m pc Ls (.int x :: st)) := by
  obtain ⟨d, rfl⟩ := hd; exact Wp.go (fun t kk => XS.i2l X.here hx rfl (hb hby d) rfl kk) k
theorem w_l2i (X : Stand p l e R s m args below meth c T locs cells slots) (hx : p.tables.exec = Jvm.exec) (hby : c.code = bs) {x : Int64} (hd : In bs pc (.l2i) 1 nx) (k : Wp p e below s K N Q T (mkF m nx Ls (.int x.toInt32 :: st))) : Wp p e below s K N Q T (mkF m pc Ls (.long x :: st)) := by
  obtain ⟨d, rfl⟩ := hd; exact Wp.go (fun t kk => XS.l2i X.here hx rfl (hb hby d) rfl kk) k
theorem w_lneg (X : Stand p l e R s m args below meth c T locs cells slots) (hx : p.tables.exec = Jvm.exec) (hby : c.code = bs) {x : Int64} (hd : In bs pc (.lneg) 1 nx) (k : Wp p e below s K N Q T (mkF m nx Ls (.long (-x) :: st))) : Wp p e below s K N Q T (mkF m pc Ls (.long x :: st)) := by
  obtain ⟨d, rfl⟩ := hd; exact Wp.go (fun t kk => XS.lneg X.here hx rfl (hb hby d) rfl kk) k
theorem w_idiv (X : Stand p l e R s m args below meth c T locs cells slots) (hx : p.tables.exec = Jvm.exec) (hby : c.code = bs) {x y : Int32} (hd : In bs pc (.idiv) 1 nx) (hy : y ≠ 0) (k : Wp p e below s K N Q T (mkF m nx Ls (.int (x / y) :: st))) : Wp p e below s K N Q T (mkF m pc Ls (.int y :: .int x :: st)) := by
  obtain ⟨d, rfl⟩ := hd; exact Wp.go (fun t kk => XS.idiv X.here hx rfl (hb hby d) rfl hy kk) k
theorem w_irem (X : Stand p l e R s m args below meth c T locs cells slots) (hx : p.tables.exec = Jvm.exec) (hby : c.code = bs) {x y : Int32} (hd : In bs pc .irem 1 nx) (hy : y ≠ 0) (k : Wp p e below s K N Q T (mkF m nx Ls (.int (x % y) :: st))) : Wp p e below s K N Q T (mkF m pc Ls (.int y :: .int x :: st)) := by
  obtain ⟨d, rfl⟩ := hd; exact Wp.go (fun t kk => iremM X hx rfl (hb hby d) rfl hy kk) k
theorem w_ldiv (X : Stand p l e R s m args below meth c T locs cells slots) (hx : p.tables.exec = Jvm.exec) (hby : c.code = bs) {x y : Int64} (hd : In bs pc (.ldiv) 1 nx) (hy : y ≠ 0) (k : Wp p e below s K N Q T (mkF m nx Ls (.long (x / y) :: st))) : Wp p e below s K N Q T (mkF m pc Ls (.long y :: .long x :: st)) := by
  obtain ⟨d, rfl⟩ := hd; exact Wp.go (fun t kk => XS.ldiv X.here hx rfl (hb hby d) rfl hy kk) k
theorem w_lrem (X : Stand p l e R s m args below meth c T locs cells slots) (hx : p.tables.exec = Jvm.exec) (hby : c.code = bs) {x y : Int64} (hd : In bs pc .lrem 1 nx) (hy : y ≠ 0) (k : Wp p e below s K N Q T (mkF m nx Ls (.long (x % y) :: st))) : Wp p e below s K N Q T (mkF m pc Ls (.long y :: .long x :: st)) := by
  obtain ⟨d, rfl⟩ := hd; refine Wp.go (fun t kk => XS.lrem X.here hx rfl (hb hby d) rfl hy kk) ?_; rw [lrem_mod]; exact k
theorem w_aconst_null (X : Stand p l e R s m args below meth c T locs cells slots) (hx : p.tables.exec = Jvm.exec) (hby : c.code = bs)  (hd : In bs pc (.aconst_null) 1 nx) (k : Wp p e below s K N Q T (mkF m nx Ls (.null :: st))) : Wp p e below s K N Q T (mkF m pc Ls (st)) := by
  obtain ⟨d, rfl⟩ := hd; exact Wp.go (fun t kk => XS.aconstNull X.here hx rfl (hb hby d) kk) k
theorem w_dup (X : Stand p l e R s m args below meth c T locs cells slots) (hx : p.tables.exec = Jvm.exec) (hby : c.code = bs) {x : Value} (hd : In bs pc (.dup) 1 nx) (hc : x.category = 1) (k : Wp p e below s K N Q T (mkF m nx Ls (x :: x :: st))) : Wp p e below s K N Q T (mkF m pc Ls (x :: st)) := by
  obtain ⟨d, rfl⟩ := hd; exact Wp.go (fun t kk => XS.dup X.here hx rfl (hb hby d) rfl hc kk) k
theorem w_dup_x1 (X : Stand p l e R s m args below meth c T locs cells slots) (hx : p.tables.exec = Jvm.exec) (hby : c.code = bs) {x y : Value} (hd : In bs pc (.dup_x1) 1 nx) (hc : x.category = 1) (hc2 : y.category = 1) (k : Wp p e below s K N Q T (mkF m nx Ls (x :: y :: x :: st))) : Wp p e below s K N Q T (mkF m pc Ls (x :: y :: st)) := by
  obtain ⟨d, rfl⟩ := hd; exact Wp.go (fun t kk => XS.dupX1 X.here hx rfl (hb hby d) rfl hc hc2 kk) k
theorem w_dup2 (X : Stand p l e R s m args below meth c T locs cells slots) (hx : p.tables.exec = Jvm.exec) (hby : c.code = bs) {x y : Value} (hd : In bs pc (.dup2) 1 nx) (hc : x.category = 1) (hc2 : y.category = 1) (k : Wp p e below s K N Q T (mkF m nx Ls (x :: y :: x :: y :: st))) : Wp p e below s K N Q T (mkF m pc Ls (x :: y :: st)) := by
  obtain ⟨d, rfl⟩ := hd; exact Wp.go (fun t kk => XT.dup2 X.here hx rfl (hb hby d) rfl hc hc2 kk) k
theorem w_dup2L (X : Stand p l e R s m args below meth c T locs cells slots) (hx : p.tables.exec = Jvm.exec) (hby : c.code = bs) {x : Int64} (hd : In bs pc (.dup2) 1 nx) (k : Wp p e below s K N Q T (mkF m nx Ls (.long x :: .long x :: st))) : Wp p e below s K N Q T (mkF m pc Ls (.long x :: st)) := by
  obtain ⟨d, rfl⟩ := hd; exact Wp.go (fun t kk => XT.dup2L X.here hx rfl (hb hby d) rfl kk) k
theorem w_pop (X : Stand p l e R s m args below meth c T locs cells slots) (hx : p.tables.exec = Jvm.exec) (hby : c.code = bs) {x : Value} (hd : In bs pc (.pop) 1 nx) (hc : x.category = 1) (k : Wp p e below s K N Q T (mkF m nx Ls (st))) : Wp p e below s K N Q T (mkF m pc Ls (x :: st)) := by
  obtain ⟨d, rfl⟩ := hd; exact Wp.go (fun t kk => XS.pop X.here hx rfl (hb hby d) rfl hc kk) k
theorem w_iconst (X : Stand p l e R s m args below meth c T locs cells slots) (hx : p.tables.exec = Jvm.exec) (hby : c.code = bs) {i : Int} (v : Int32) (hd : In bs pc (.iconst i) 1 nx) (hv : Int32.ofInt i = v) (k : Wp p e below s K N Q T (mkF m nx Ls (.int v :: st))) : Wp p e below s K N Q T (mkF m pc Ls (st)) := by
  obtain ⟨d, rfl⟩ := hd; exact Wp.go (fun t kk => XT.iconstV X.here hx rfl v (hb hby d) hv kk) k
theorem w_bipush (X : Stand p l e R s m args below meth c T locs cells slots) (hx : p.tables.exec = Jvm.exec) (hby : c.code = bs) {i : Int} (v : Int32) (hd : In bs pc (.bipush i) 2 nx) (hv : (Int8.ofInt i).toInt32 = v) (k : Wp p e below s K N Q T (mkF m nx Ls (.int v :: st))) : Wp p e below s K N Q T (mkF m pc Ls (st)) := by
  obtain ⟨d, rfl⟩ := hd; exact Wp.go (fun t kk => XT.bipushV X.here hx rfl v (hb hby d) hv kk) k
theorem w_sipush (X : Stand p l e R s m args below meth c T locs cells slots) (hx : p.tables.exec = Jvm.exec) (hby : c.code = bs) {i : Int} (v : Int32) (hd : In bs pc (.sipush i) 3 nx) (hv : (Int16.ofInt i).toInt32 = v) (k : Wp p e below s K N Q T (mkF m nx Ls (.int v :: st))) : Wp p e below s K N Q T (mkF m pc Ls (st)) := by
  obtain ⟨d, rfl⟩ := hd; exact Wp.go (fun t kk => XT.sipushV X.here hx rfl v (hb hby d) hv kk) k
theorem w_lconst (X : Stand p l e R s m args below meth c T locs cells slots) (hx : p.tables.exec = Jvm.exec) (hby : c.code = bs) {i : Fin 2} (v : Int64) (hd : In bs pc (.lconst i) 1 nx) (hv : Int64.ofNat i = v) (k : Wp p e below s K N Q T (mkF m nx Ls (.long v :: st))) : Wp p e below s K N Q T (mkF m pc Ls (st)) := by
  obtain ⟨d, rfl⟩ := hd; exact Wp.go (fun t kk => XT.lconstV X.here hx rfl v (hb hby d) hv kk) k
theorem w_iloadN (X : Stand p l e R s m args below meth c T locs cells slots) (hx : p.tables.exec = Jvm.exec) (hby : c.code = bs) {i : Fin 4} {v : Int32} (hd : In bs pc (.iload_n i) 1 nx) (hl : Ls[i.val]? = some (.val (.int v))) (k : Wp p e below s K N Q T (mkF m nx Ls (.int v :: st))) : Wp p e below s K N Q T (mkF m pc Ls (st)) := by
  obtain ⟨d, rfl⟩ := hd; exact Wp.go (fun t kk => XS.iloadN X.here hx rfl (hb hby d) hl kk) k
theorem w_lloadN (X : Stand p l e R s m args below meth c T locs cells slots) (hx : p.tables.exec = Jvm.exec) (hby : c.code = bs) {i : Fin 4} {v : Int64} (hd : In bs pc (.lload_n i) 1 nx) (hl : Ls[i.val]? = some (.val (.long v))) (k : Wp p e below s K N Q T (mkF m nx Ls (.long v :: st))) : Wp p e below s K N Q T (mkF m pc Ls (st)) := by
  obtain ⟨d, rfl⟩ := hd; exact Wp.go (fun t kk => XS.lloadN X.here hx rfl (hb hby d) hl kk) k
theorem w_aloadN (X : Stand p l e R s m args below meth c T locs cells slots) (hx : p.tables.exec = Jvm.exec) (hby : c.code = bs) {i : Fin 4} {v : Value} (hd : In bs pc (.aload_n i) 1 nx) (hl : Ls[i.val]? = some (.val v)) (hv : v.isRef = true) (k : Wp p e below s K N Q T (mkF m nx Ls (v :: st))) : Wp p e below s K N Q T (mkF m pc Ls (st)) := by
  obtain ⟨d, rfl⟩ := hd; exact Wp.go (fun t kk => XS.aloadN X.here hx rfl (hb hby d) hl hv kk) k
theorem w_istoreN (X : Stand p l e R s m args below meth c T locs cells slots) (hx : p.tables.exec = Jvm.exec) (hby : c.code = bs) {i : Fin 4} {v : Int32} (l' : Array Slot) (hd : In bs pc (.istore_n i) 1 nx) (hl : storeLocals Ls i.val (.int v) = some l') (k : Wp p e below s K N Q T (mkF m nx l' (st))) : Wp p e below s K N Q T (mkF m pc Ls (.int v :: st)) := by
  obtain ⟨d, rfl⟩ := hd; exact Wp.go (fun t kk => XS.istoreN X.here hx rfl (hb hby d) rfl hl kk) k
theorem w_lstoreN (X : Stand p l e R s m args below meth c T locs cells slots) (hx : p.tables.exec = Jvm.exec) (hby : c.code = bs) {i : Fin 4} {v : Int64} (l' : Array Slot) (hd : In bs pc (.lstore_n i) 1 nx) (hl : storeLocals Ls i.val (.long v) = some l') (k : Wp p e below s K N Q T (mkF m nx l' (st))) : Wp p e below s K N Q T (mkF m pc Ls (.long v :: st)) := by
  obtain ⟨d, rfl⟩ := hd; exact Wp.go (fun t kk => XS.lstoreN X.here hx rfl (hb hby d) rfl hl kk) k
theorem w_astoreN (X : Stand p l e R s m args below meth c T locs cells slots) (hx : p.tables.exec = Jvm.exec) (hby : c.code = bs) {i : Fin 4} {v : Value} (l' : Array Slot) (hd : In bs pc (.astore_n i) 1 nx) (hv : v.isRef = true) (hl : storeLocals Ls i.val v = some l') (k : Wp p e below s K N Q T (mkF m nx l' (st))) : Wp p e below s K N Q T (mkF m pc Ls (v :: st)) := by
  obtain ⟨d, rfl⟩ := hd; exact Wp.go (fun t kk => XS.astoreN X.here hx rfl (hb hby d) rfl hv hl kk) k
theorem w_iload (X : Stand p l e R s m args below meth c T locs cells slots) (hx : p.tables.exec = Jvm.exec) (hby : c.code = bs) {i : Nat} {v : Int32} (hd : In bs pc (.iload i) 2 nx) (hl : Ls[i]? = some (.val (.int v))) (k : Wp p e below s K N Q T (mkF m nx Ls (.int v :: st))) : Wp p e below s K N Q T (mkF m pc Ls (st)) := by
  obtain ⟨d, rfl⟩ := hd; exact Wp.go (fun t kk => XS.iload X.here hx rfl (hb hby d) hl kk) k
theorem w_lload (X : Stand p l e R s m args below meth c T locs cells slots) (hx : p.tables.exec = Jvm.exec) (hby : c.code = bs) {i : Nat} {v : Int64} (hd : In bs pc (.lload i) 2 nx) (hl : Ls[i]? = some (.val (.long v))) (k : Wp p e below s K N Q T (mkF m nx Ls (.long v :: st))) : Wp p e below s K N Q T (mkF m pc Ls (st)) := by
  obtain ⟨d, rfl⟩ := hd; exact Wp.go (fun t kk => XS.lload X.here hx rfl (hb hby d) hl kk) k
theorem w_aload (X : Stand p l e R s m args below meth c T locs cells slots) (hx : p.tables.exec = Jvm.exec) (hby : c.code = bs) {i : Nat} {v : Value} (hd : In bs pc (.aload i) 2 nx) (hl : Ls[i]? = some (.val v)) (hv : v.isRef = true) (k : Wp p e below s K N Q T (mkF m nx Ls (v :: st))) : Wp p e below s K N Q T (mkF m pc Ls (st)) := by
  obtain ⟨d, rfl⟩ := hd; exact Wp.go (fun t kk => XS.aload X.here hx rfl (hb hby d) hl hv kk) k
theorem w_istore (X : Stand p l e R s m args below meth c T locs cells slots) (hx : p.tables.exec = Jvm.exec) (hby : c.code = bs) {i : Nat} {v : Int32} (l' : Array Slot) (hd : In bs pc (.istore i) 2 nx) (hl : storeLocals Ls i (.int v) = some l') (k : Wp p e below s K N Q T (mkF m nx l' (st))) : Wp p e below s K N Q T (mkF m pc Ls (.int v :: st)) := by
  obtain ⟨d, rfl⟩ := hd; exact Wp.go (fun t kk => XS.istore X.here hx rfl (hb hby d) rfl hl kk) k
theorem w_lstore (X : Stand p l e R s m args below meth c T locs cells slots) (hx : p.tables.exec = Jvm.exec) (hby : c.code = bs) {i : Nat} {v : Int64} (l' : Array Slot) (hd : In bs pc (.lstore i) 2 nx) (hl : storeLocals Ls i (.long v) = some l') (k : Wp p e below s K N Q T (mkF m nx l' (st))) : Wp p e below s K N Q T (mkF m pc Ls (.long v :: st)) := by
  obtain ⟨d, rfl⟩ := hd; exact Wp.go (fun t kk => XS.lstore X.here hx rfl (hb hby d) rfl hl kk) k
theorem w_astore (X : Stand p l e R s m args below meth c T locs cells slots) (hx : p.tables.exec = Jvm.exec) (hby : c.code = bs) {i : Nat} {v : Value} (l' : Array Slot) (hd : In bs pc (.astore i) 2 nx) (hv : v.isRef = true) (hl : storeLocals Ls i v = some l') (k : Wp p e below s K N Q T (mkF m nx l' (st))) : Wp p e below s K N Q T (mkF m pc Ls (v :: st)) := by
  obtain ⟨d, rfl⟩ := hd; exact Wp.go (fun t kk => XS.astore X.here hx rfl (hb hby d) rfl hv hl kk) k
theorem w_iinc (X : Stand p l e R s m args below meth c T locs cells slots) (hx : p.tables.exec = Jvm.exec) (hby : c.code = bs) {i : Nat} {cst : Int} {x : Int32} (v : Int32) (l' : Array Slot) (hd : In bs pc (.iinc i cst) 3 nx) (hv : Int32.ofInt cst = v) (hl : Ls[i]? = some (.val (.int x))) (hl' : storeLocals Ls i (.int (x + v)) = some l') (k : Wp p e below s K N Q T (mkF m nx l' st)) : Wp p e below s K N Q T (mkF m pc Ls st) := by
  obtain ⟨d, rfl⟩ := hd; exact Wp.go (fun t kk => XT.iincV X.here hx rfl v (hb hby d) hv hl hl' kk) k
theorem w_goto (X : Stand p l e R s m args below meth c T locs cells slots) (hx : p.tables.exec = Jvm.exec) (hby : c.code = bs) (hd : Jm bs pc (.goto o) o nx tg) (k : Wp p e below s K N Q T (mkF m tg Ls st)) : Wp p e below s K N Q T (mkF m pc Ls st) := by
  obtain ⟨d, -, q1, q2⟩ := hd; exact Wp.go (fun t kk => XS.goto X.here hx rfl rfl (hb hby d) q1 q2 kk) k
theorem f_icmp_eq (X : Stand p l e R s m args below meth c T locs cells slots) (hx : p.tables.exec = Jvm.exec) (hby : c.code = bs) {x y : Int32} (hd : Jm bs pc (.if_icmp .eq o) o nx tg) (kt : x = y → Wp p e below s K N Q T (mkF m tg Ls st)) (kf : ¬ x = y → Wp p e below s K N Q T (mkF m nx Ls st)) : Wp p e below s K N Q T (mkF m pc Ls (.int y :: .int x :: st)) := by
  obtain ⟨d, rfl, q1, q2⟩ := hd
  by_cases q : x = y
  · exact Wp.go (fun t kk => XS.icmpYes X.here hx rfl rfl (hb hby d) rfl (XT.ii_eq_t q) q1 q2 kk) (kt q)
  · exact Wp.go (fun t kk => XS.icmpNo X.here hx rfl (hb hby d) rfl (XT.ii_eq_f q) kk) (kf q)
theorem f_if_eq (X : Stand p l e R s m args below meth c T locs cells slots) (hx : p.tables.exec = Jvm.exec) (hby : c.code = bs) {x : Int32} (hd : Jm bs pc (.ifCond .eq o) o nx tg) (kt : x = 0 → Wp p e below s K N Q T (mkF m tg Ls st)) (kf : ¬ x = 0 → Wp p e below s K N Q T (mkF m nx Ls st)) : Wp p e below s K N Q T (mkF m pc Ls (.int x :: st)) := by
  obtain ⟨d, rfl, q1, q2⟩ := hd
  by_cases q : x = 0
  · exact Wp.go (fun t kk => XS.ifYes X.here hx rfl rfl (hb hby d) rfl (XT.i0_eq_t q) q1 q2 kk) (kt q)
  · exact Wp.go (fun t kk => XS.ifNo X.here hx rfl (hb hby d) rfl (XT.i0_eq_f q) kk) (kf q)
theorem f_lcmp_eq (X : Stand p l e R s m args below meth c T locs cells slots) (hx : p.tables.exec = Jvm.exec) (hby : c.code = bs) {x y : Int64} {n1 : Nat} (hc : In bs pc .lcmp 1 n1) (hd : Jm bs n1 (.ifCond .eq o) o nx tg) (kt : x = y → Wp p e below s K N Q T (mkF m tg Ls st)) (kf : ¬ x = y → Wp p e below s K N Q T (mkF m nx Ls st)) : Wp p e below s K N Q T (mkF m pc Ls (.long y :: .long x :: st)) := by
  obtain ⟨d1, rfl⟩ := hc; obtain ⟨d, rfl, q1, q2⟩ := hd
  refine Wp.go (fun t kk => XT.lcmp X.here hx rfl (hb hby d1) rfl kk) ?_
  by_cases q : x = y
  · exact Wp.go (fun t kk => XS.ifYes X.here hx rfl rfl (hb hby d) rfl (XT.ll_eq_t q) q1 q2 kk) (kt q)
  · exact Wp.go (fun t kk => XS.ifNo X.here hx rfl (hb hby d) rfl (XT.ll_eq_f q) kk) (kf q)
theorem f_icmp_ne (X : Stand p l e R s m args below meth c T locs cells slots) (hx : p.tables.exec = Jvm.exec) (hby : c.code = bs) {x y : Int32} (hd : Jm bs pc (.if_icmp .ne o) o nx tg) (kt : ¬ x = y → Wp p e below s K N Q T (mkF m tg Ls st)) (kf : x = y → Wp p e below s K N Q T (mkF m nx Ls st)) : Wp p e below s K N Q T (mkF m pc Ls (.int y :: .int x :: st)) := by
  obtain ⟨d, rfl, q1, q2⟩ := hd
  by_cases q : x = y
  · exact Wp.go (fun t kk => XS.icmpNo X.here hx rfl (hb hby d) rfl (XT.ii_ne_f q) kk) (kf q)
  · exact Wp.go (fun t kk => XS.icmpYes X.here hx rfl rfl (hb hby d) rfl (XT.ii_ne_t q) q1 q2 kk) (kt q)
theorem f_if_ne (X : Stand p l e R s m args below meth c T locs cells slots) (hx : p.tables.exec = Jvm.exec) (hby : c.code = bs) {x : Int32} (hd : Jm bs pc (.ifCond .ne o) o nx tg) (kt : ¬ x = 0 → Wp p e below s K N Q T (mkF m tg Ls st)) (kf : x = 0 → Wp p e below s K N Q T (mkF m nx Ls st)) : Wp p e below s K N Q T (mkF m pc Ls (.int x :: st)) := by
  obtain ⟨d, rfl, q1, q2⟩ := hd
  by_cases q : x = 0
  · exact Wp.go (fun t kk => XS.ifNo X.here hx rfl (hb hby d) rfl (XT.i0_ne_f q) kk) (kf q)
  · exact Wp.go (fun t kk => XS.ifYes X.here hx rfl rfl (hb hby d) rfl (XT.i0_ne_t q) q1 q2 kk) (kt q)
theorem f_lcmp_ne (X : Stand p l e R s m args below meth c T locs cells slots) (hx : p.tables.exec = Jvm.exec) (hby : c.code = bs) {x y : Int64} {n1 : Nat} (hc : In bs pc .lcmp 1 n1) (hd : Jm bs n1 (.ifCond .ne o) o nx tg) (kt : ¬ x = y → Wp p e below s K N Q T (mkF m tg Ls st)) (kf : x = y → Wp p e below s K N Q T (mkF m nx Ls st)) : Wp p e below s K N Q T (mkF m pc Ls (.long y :: .long x :: st)) := by
  obtain ⟨d1, rfl⟩ := hc; obtain ⟨d, rfl, q1, q2⟩ := hd
  refine Wp.go (fun t kk => XT.lcmp X.here hx rfl (hb hby d1) rfl kk) ?_
  by_cases q : x = y
  · exact Wp.go (fun t kk => XS.ifNo X.here hx rfl (hb hby d) rfl (XT.ll_ne_f q) kk) (kf q)
  · exact Wp.go (fun t kk => XS.ifYes X.here hx rfl rfl (hb hby d) rfl (XT.ll_ne_t q) q1 q2 kk) (kt q)
theorem f_icmp_lt (X : Stand p l e R s m args below meth c T locs cells slots) (hx : p.tables.exec = Jvm.exec) (hby : c.code = bs) {x y : Int32} (hd : Jm bs pc (.if_icmp .lt o) o nx tg) (kt : x < y → Wp p e below s K N Q T (mkF m tg Ls st)) (kf : ¬ x < y → Wp p e below s K N Q T (mkF m nx Ls st)) : Wp p e below s K N Q T (mkF m pc Ls (.int y :: .int x :: st)) := by
  obtain ⟨d, rfl, q1, q2⟩ := hd
  by_cases q : x < y
  · exact Wp.go (fun t kk => XS.icmpYes X.here hx rfl rfl (hb hby d) rfl (XT.ii_lt_t q) q1 q2 kk) (kt q)
  · exact Wp.go (fun t kk => XS.icmpNo X.here hx rfl (hb hby d) rfl (XT.ii_lt_f q) kk) (kf q)
theorem f_if_lt (X : Stand p l e R s m args below meth c T locs cells slots) (hx : p.tables.exec = Jvm.exec) (hby : c.code = bs) {x : Int32} (hd : Jm bs pc (.ifCond .lt o) o nx tg) (kt : x < 0 → Wp p e below s K N Q T (mkF m tg Ls st)) (kf : ¬ x < 0 → Wp p e below s K N Q T (mkF m nx Ls st)) : Wp p e below s K N Q T (mkF m pc Ls (.int x :: st)) := by
  obtain ⟨d, rfl, q1, q2⟩ := hd
  by_cases q : x < 0
  · exact Wp.go (fun t kk => XS.ifYes X.here hx rfl rfl (hb hby d) rfl (XT.i0_lt_t q) q1 q2 kk) (kt q)
  · exact Wp.go (fun t kk => XS.ifNo X.here hx rfl (hb hby d) rfl (XT.i0_lt_f q) kk) (kf q)
theorem f_lcmp_lt (X : Stand p l e R s m args below meth c T locs cells slots) (hx : p.tables.exec = Jvm.exec) (hby : c.code = bs) {x y : Int64} {n1 : Nat} (hc : In bs pc .lcmp 1 n1) (hd : Jm bs n1 (.ifCond .lt o) o nx tg) (kt : x < y → Wp p e below s K N Q T (mkF m tg Ls st)) (kf : ¬ x < y → Wp p e below s K N Q T (mkF m nx Ls st)) : Wp p e below s K N Q T (mkF m pc Ls (.long y :: .long x :: st)) := by
  obtain ⟨d1, rfl⟩ := hc; obtain ⟨d, rfl, q1, q2⟩ := hd
  refine Wp.go (fun t kk => XT.lcmp X.here hx rfl (hb hby d1) rfl kk) ?_
  by_cases q : x < y
  · exact Wp.go (fun t kk => XS.ifYes X.here hx rfl rfl (hb hby d) rfl (XT.ll_lt_t q) q1 q2 kk) (kt q)
  · exact Wp.go (fun t kk => XS.ifNo X.here hx rfl (hb hby d) rfl (XT.ll_lt_f q) kk) (kf q)
theorem f_icmp_ge (X : Stand p l e R s m args below meth c T locs cells slots) (hx : p.tables.exec = Jvm.exec) (hby : c.code = bs) {x y : Int32} (hd : Jm bs pc (.if_icmp .ge o) o nx tg) (kt : ¬ x < y → Wp p e below s K N Q T (mkF m tg Ls st)) (kf : x < y → Wp p e below s K N Q T (mkF m nx Ls st)) : Wp p e below s K N Q T (mkF m pc Ls (.int y :: .int x :: st)) := by
  obtain ⟨d, rfl, q1, q2⟩ := hd
  by_cases q : x < y
  · exact Wp.go (fun t kk => XS.icmpNo X.here hx rfl (hb hby d) rfl (XT.ii_ge_f q) kk) (kf q)
  · exact Wp.go (fun t kk => XS.icmpYes X.here hx rfl rfl (hb hby d) rfl (XT.ii_ge_t q) q1 q2 kk) (kt q)
theorem f_if_ge (X : Stand p l e R s m args below meth c T locs cells slots) (hx : p.tables.exec = Jvm.exec) (hby : c.code = bs) {x : Int32} (hd : Jm bs pc (.ifCond .ge o) o nx tg) (kt : ¬ x < 0 → Wp p e below s K N Q T (mkF m tg Ls st)) (kf : x < 0 → Wp p e below s K N Q T (mkF m nx Ls st)) : Wp p e below s K N Q T (mkF m pc Ls (.int x :: st)) := by
  obtain ⟨d, rfl, q1, q2⟩ := hd
  by_cases q : x < 0
  · exact Wp.go (fun t kk => XS.ifNo X.here hx rfl (hb hby d) rfl (XT.i0_ge_f q) kk) (kf q)
  · exact Wp.go (fun t kk => XS.ifYes X.here hx rfl rfl (hb hby d) rfl (XT.i0_ge_t q) q1 q2 kk) (kt q)
theorem f_lcmp_ge (X : Stand p l e R s m args below meth c T locs cells slots) (hx : p.tables.exec = Jvm.exec) (hby : c.code = bs) {x y : Int64} {n1 : Nat} (hc : In bs pc .lcmp 1 n1) (hd : Jm bs n1 (.ifCond .ge o) o nx tg) (kt : ¬ x < y → Wp p e below s K N Q T (mkF m tg Ls st)) (kf : x < y → Wp p e below s K N Q T (mkF m nx Ls st)) : Wp p e below s K N Q T (mkF m pc Ls (.long y :: .long x :: st)) := by
  obtain ⟨d1, rfl⟩ := hc; obtain ⟨d, rfl, q1, q2⟩ := hd
  refine Wp.go (fun t kk => XT.lcmp X.here hx rfl (hb hby d1) rfl kk) ?_
  by_cases q : x < y
  · exact Wp.go (fun t kk => XS.ifNo X.here hx rfl (hb hby d) rfl (XT.ll_ge_f q) kk) (kf q)
  · exact Wp.go (fun t kk => XS.ifYes X.here hx rfl rfl (hb hby d) rfl (XT.ll_ge_t q) q1 q2 kk) (kt q)
theorem f_icmp_gt (X : Stand p l e R s m args below meth c T locs cells slots) (hx : p.tables.exec = Jvm.exec) (hby : c.code = bs) {x y : Int32} (hd : Jm bs pc (.if_icmp .gt o) o nx tg) (kt : y < x → Wp p e below s K N Q T (mkF m tg Ls st)) (kf : ¬ y < x → Wp p e below s K N Q T (mkF m nx Ls st)) : Wp p e below s K N Q T (mkF m pc Ls (.int y :: .int x :: st)) := by
  obtain ⟨d, rfl, q1, q2⟩ := hd
  by_cases q : y < x
  · exact Wp.go (fun t kk => XS.icmpYes X.here hx rfl rfl (hb hby d) rfl (XT.ii_gt_t q) q1 q2 kk) (kt q)
  · exact Wp.go (fun t kk => XS.icmpNo X.here hx rfl (hb hby d) rfl (XT.ii_gt_f q) kk) (kf q)
theorem f_if_gt (X : Stand p l e R s m args below meth c T locs cells slots) (hx : p.tables.exec = Jvm.exec) (hby : c.code = bs) {x : Int32} (hd : Jm bs pc (.ifCond .gt o) o nx tg) (kt : 0 < x → Wp p e below s K N Q T (mkF m tg Ls st)) (kf : ¬ 0 < x → Wp p e below s K N Q T (mkF m nx Ls st)) : Wp p e below s K N Q T (mkF m pc Ls (.int x :: st)) := by
  obtain ⟨d, rfl, q1, q2⟩ := hd
  by_cases q : 0 < x
  · exact Wp.go (fun t kk => XS.ifYes X.here hx rfl rfl (hb hby d) rfl (XT.i0_gt_t q) q1 q2 kk) (kt q)
  · exact Wp.go (fun t kk => XS.ifNo X.here hx rfl (hb hby d) rfl (XT.i0_gt_f q) kk) (kf q)
theorem f_lcmp_gt (X : Stand p l e R s m args below meth c T locs cells slots) (hx : p.tables.exec = Jvm.exec) (hby : c.code = bs) {x y : Int64} {n1 : Nat} (hc : In bs pc .lcmp 1 n1) (hd : Jm bs n1 (.ifCond .gt o) o nx tg) (kt : y < x → Wp p e below s K N Q T (mkF m tg Ls st)) (kf : ¬ y < x → Wp p e below s K N Q T (mkF m nx Ls st)) : Wp p e below s K N Q T (mkF m pc Ls (.long y :: .long x :: st)) := by
  obtain ⟨d1, rfl⟩ := hc; obtain ⟨d, rfl, q1, q2⟩ := hd
  refine Wp.go (fun t kk => XT.lcmp X.here hx rfl (hb hby d1) rfl kk) ?_
  by_cases q : y < x
  · exact Wp.go (fun t kk => XS.ifYes X.here hx rfl rfl (hb hby d) rfl (XT.ll_gt_t q) q1 q2 kk) (kt q)
  · exact Wp.go (fun t kk => XS.ifNo X.here hx rfl (hb hby d) rfl (XT.ll_gt_f q) kk) (kf q)
theorem f_icmp_le (X : Stand p l e R s m args below meth c T locs cells slots) (hx : p.tables.exec = Jvm.exec) (hby : c.code = bs) {x y : Int32} (hd : Jm bs pc (.if_icmp .le o) o nx tg) (kt : ¬ y < x → Wp p e below s K N Q T (mkF m tg Ls st)) (kf : y < x → Wp p e below s K N Q T (mkF m nx Ls st)) : Wp p e below s K N Q T (mkF m pc Ls (.int y :: .int x :: st)) := by
  obtain ⟨d, rfl, q1, q2⟩ := hd
  by_cases q : y < x
  · exact Wp.go (fun t kk => XS.icmpNo X.here hx rfl (hb hby d) rfl (XT.ii_le_f q) kk) (kf q)
  · exact Wp.go (fun t kk => XS.icmpYes X.here hx rfl rfl (hb hby d) rfl (XT.ii_le_t q) q1 q2 kk) (kt q)
theorem f_if_le (X : Stand p l e R s m args below meth c T locs cells slots) (hx : p.tables.exec = Jvm.exec) (hby : c.code = bs) {x : Int32} (hd : Jm bs pc (.ifCond .le o) o nx tg) (kt : ¬ 0 < x → Wp p e below s K N Q T (mkF m tg Ls st)) (kf : 0 < x → Wp p e below s K N Q T (mkF m nx Ls st)) : Wp p e below s K N Q T (mkF m pc Ls (.int x :: st)) := by
  obtain ⟨d, rfl, q1, q2⟩ := hd
  by_cases q : 0 < x
  · exact Wp.go (fun t kk => XS.ifNo X.here hx rfl (hb hby d) rfl (XT.i0_le_f q) kk) (kf q)
  · exact Wp.go (fun t kk => XS.ifYes X.here hx rfl rfl (hb hby d) rfl (XT.i0_le_t q) q1 q2 kk) (kt q)
theorem f_lcmp_le (X : Stand p l e R s m args below meth c T locs cells slots) (hx : p.tables.exec = Jvm.exec) (hby : c.code = bs) {x y : Int64} {n1 : Nat} (hc : In bs pc .lcmp 1 n1) (hd : Jm bs n1 (.ifCond .le o) o nx tg) (kt : ¬ y < x → Wp p e below s K N Q T (mkF m tg Ls st)) (kf : y < x → Wp p e below s K N Q T (mkF m nx Ls st)) : Wp p e below s K N Q T (mkF m pc Ls (.long y :: .long x :: st)) := by
  obtain ⟨d1, rfl⟩ := hc; obtain ⟨d, rfl, q1, q2⟩ := hd
  refine Wp.go (fun t kk => XT.lcmp X.here hx rfl (hb hby d1) rfl kk) ?_
  by_cases q : y < x
  · exact Wp.go (fun t kk => XS.ifNo X.here hx rfl (hb hby d) rfl (XT.ll_le_f q) kk) (kf q)
  · exact Wp.go (fun t kk => XS.ifYes X.here hx rfl rfl (hb hby d) rfl (XT.ll_le_t q) q1 q2 kk) (kt q)
theorem f_acmp_eq (X : Stand p l e R s m args below meth c T locs cells slots) (hx : p.tables.exec = Jvm.exec) (hby : c.code = bs) {x y : Addr} (hd : Jm bs pc (.if_acmp .eq o) o nx tg) (kt : x = y → Wp p e below s K N Q T (mkF m tg Ls st)) (kf : ¬ x = y → Wp p e below s K N Q T (mkF m nx Ls st)) : Wp p e below s K N Q T (mkF m pc Ls (.ref y :: .ref x :: st)) := by
  obtain ⟨d, rfl, q1, q2⟩ := hd
  by_cases q : x = y
  · exact Wp.go (fun t kk => XT.acmpYes X.here hx rfl rfl (hb hby d) rfl rfl rfl (XT.aa_eq_t (congrArg Value.ref q)) q1 q2 kk) (kt q)
  · exact Wp.go (fun t kk => XT.acmpNo X.here hx rfl (hb hby d) rfl rfl rfl (XT.aa_eq_f (fun r => q (Value.ref.inj r))) kk) (kf q)
theorem f_acmpV_eq (X : Stand p l e R s m args below meth c T locs cells slots) (hx : p.tables.exec = Jvm.exec) (hby : c.code = bs) {x y : Value} (hx' : x.isRef = true) (hy' : y.isRef = true) (hd : Jm bs pc (.if_acmp .eq o) o nx tg) (kt : x = y → Wp p e below s K N Q T (mkF m tg Ls st)) (kf : ¬ x = y → Wp p e below s K N Q T (mkF m nx Ls st)) : Wp p e below s K N Q T (mkF m pc Ls (y :: x :: st)) := by
  obtain ⟨d, rfl, q1, q2⟩ := hd
  by_cases q : x = y
  · exact Wp.go (fun t kk => XT.acmpYes X.here hx rfl rfl (hb hby d) rfl hx' hy' (XT.aa_eq_t q) q1 q2 kk) (kt q)
  · exact Wp.go (fun t kk => XT.acmpNo X.here hx rfl (hb hby d) rfl hx' hy' (XT.aa_eq_f q) kk) (kf q)
theorem f_acmp_ne (X : Stand p l e R s m args below meth c T locs cells slots) (hx : p.tables.exec = Jvm.exec) (hby : c.code = bs) {x y : Addr} (hd : Jm bs pc (.if_acmp .ne o) o nx tg) (kt : ¬ x = y → Wp p e below s K N Q T (mkF m tg Ls st)) (kf : x = y → Wp p e below s K N Q T (mkF m nx Ls st)) : Wp p e below s K N Q T (mkF m pc Ls (.ref y :: .ref x :: st)) := by
  obtain ⟨d, rfl, q1, q2⟩ := hd
  by_cases q : x = y
  · exact Wp.go (fun t kk => XT.acmpNo X.here hx rfl (hb hby d) rfl rfl rfl (XT.aa_ne_f (congrArg Value.ref q)) kk) (kf q)
  · exact Wp.go (fun t kk => XT.acmpYes X.here hx rfl rfl (hb hby d) rfl rfl rfl (XT.aa_ne_t (fun r => q (Value.ref.inj r))) q1 q2 kk) (kt q)
theorem f_acmpV_ne (X : Stand p l e R s m args below meth c T locs cells slots) (hx : p.tables.exec = Jvm.exec) (hby : c.code = bs) {x y : Value} (hx' : x.isRef = true) (hy' : y.isRef = true) (hd : Jm bs pc (.if_acmp .ne o) o nx tg) (kt : ¬ x = y → Wp p e below s K N Q T (mkF m tg Ls st)) (kf : x = y → Wp p e below s K N Q T (mkF m nx Ls st)) : Wp p e below s K N Q T (mkF m pc Ls (y :: x :: st)) := by
  obtain ⟨d, rfl, q1, q2⟩ := hd
  by_cases q : x = y
  · exact Wp.go (fun t kk => XT.acmpNo X.here hx rfl (hb hby d) rfl hx' hy' (XT.aa_ne_f q) kk) (kf q)
  · exact Wp.go (fun t kk => XT.acmpYes X.here hx rfl rfl (hb hby d) rfl hx' hy' (XT.aa_ne_t q) q1 q2 kk) (kt q)
theorem w_lswHit (X : Stand p l e R s m args below meth c T locs cells slots) (hx : p.tables.exec = Jvm.exec) (hby : c.code = bs) {x : Int32} {df : Int} {ps : Array (Int × Int)} {len : Nat} {a off : Int} (hd : In bs pc (.lookupswitch df ps) len nx) (hs : (ps.toList.zip (ps.toList.drop 1)).all (fun (a, next) => a.1 < next.1) = true) (hf : ps.find? (·.1 == x.toInt) = some (a, off)) (ho : 0 ≤ (pc : Int) + off) (ht : ((pc : Int) + off).toNat = tg) (k : Wp p e below s K N Q T (mkF m tg Ls st)) : Wp p e below s K N Q T (mkF m pc Ls (.int x :: st)) := by
  obtain ⟨d, -⟩ := hd; subst ht; exact Wp.go (fun t kk => X.lookupswitchHit hx (g := mkF m pc Ls (.int x :: st)) rfl rfl (hb hby d) hs hf ho t kk) k
theorem w_lswMiss (X : Stand p l e R s m args below meth c T locs cells slots) (hx : p.tables.exec = Jvm.exec) (hby : c.code = bs) {x : Int32} {df : Int} {ps : Array (Int × Int)} {len : Nat} (hd : In bs pc (.lookupswitch df ps) len nx) (hs : (ps.toList.zip (ps.toList.drop 1)).all (fun (a, next) => a.1 < next.1) = true) (hf : ps.find? (·.1 == x.toInt) = none) (ho : 0 ≤ (pc : Int) + df) (ht : ((pc : Int) + df).toNat = tg) (k : Wp p e below s K N Q T (mkF m tg Ls st)) : Wp p e below s K N Q T (mkF m pc Ls (.int x :: st)) := by
  obtain ⟨d, -⟩ := hd; subst ht; exact Wp.go (fun t kk => X.lookupswitchMiss hx (g := mkF m pc Ls (.int x :: st)) rfl rfl (hb hby d) hs hf ho t kk) k
theorem w_tswIn (X : Stand p l e R s m args below meth c T locs cells slots) (hx : p.tables.exec = Jvm.exec) (hby : c.code = bs) {x : Int32} {df lo hi : Int} {os : Array Int} {len : Nat} {off : Int} (hd : In bs pc (.tableswitch df lo hi os) len nx) (hin : ¬ (x.toInt < lo ∨ x.toInt > hi)) (hoff : os[(x.toInt - lo).toNat]? = some off) (ho : 0 ≤ (pc : Int) + off) (ht : ((pc : Int) + off).toNat = tg) (k : Wp p e below s K N Q T (mkF m tg Ls st)) : Wp p e below s K N Q T (mkF m pc Ls (.int x :: st)) := by
  obtain ⟨d, -⟩ := hd; exact Wp.go (fun t kk => XS.tswIn X.here hx rfl rfl (hb hby d) rfl hin hoff ho ht kk) k
theorem w_tswOut (X : Stand p l e R s m args below meth c T locs cells slots) (hx : p.tables.exec = Jvm.exec) (hby : c.code = bs) {x : Int32} {df lo hi : Int} {os : Array Int} {len : Nat} (hd : In bs pc (.tableswitch df lo hi os) len nx) (hout : x.toInt < lo ∨ x.toInt > hi) (ho : 0 ≤ (pc : Int) + df) (ht : ((pc : Int) + df).toNat = tg) (k : Wp p e below s K N Q T (mkF m tg Ls st)) : Wp p e below s K N Q T (mkF m pc Ls (.int x :: st)) := by
  obtain ⟨d, -⟩ := hd; exact Wp.go (fun t kk => XS.tswOut X.here hx rfl rfl (hb hby d) rfl hout ho ht kk) k
theorem own_ne32 {x z : Int32} {i : Int} (h : ¬ x = z) (hz : z.toInt = i) : i ≠ x.toInt := fun q => h (Int32.toInt_inj.mp (by rw [hz, q]))
theorem w_ifnonnullRef (X : Stand p l e R s m args below meth c T locs cells slots) (hx : p.tables.exec = Jvm.exec) (hby : c.code = bs) {a : Addr} (hd : Jm bs pc (.ifnonnull o) o nx tg) (k : Wp p e below s K N Q T (mkF m tg Ls st)) : Wp p e below s K N Q T (mkF m pc Ls (.ref a :: st)) := by
  obtain ⟨d, -, q1, q2⟩ := hd; exact Wp.go (fun t kk => XS.ifnonnullYes X.here hx rfl rfl (hb hby d) rfl q1 q2 kk) k
theorem w_ifnonnullNull (X : Stand p l e R s m args below meth c T locs cells slots) (hx : p.tables.exec = Jvm.exec) (hby : c.code = bs) (hd : Jm bs pc (.ifnonnull o) o nx tg) (k : Wp p e below s K N Q T (mkF m nx Ls st)) : Wp p e below s K N Q T (mkF m pc Ls (.null :: st)) := by
  obtain ⟨d, rfl, q1, q2⟩ := hd; exact Wp.go (fun t kk => XS.ifnonnullNo X.here hx rfl (hb hby d) rfl kk) k
theorem w_ifnullRef (X : Stand p l e R s m args below meth c T locs cells slots) (hx : p.tables.exec = Jvm.exec) (hby : c.code = bs) {a : Addr} (hd : Jm bs pc (.ifnull o) o nx tg) (k : Wp p e below s K N Q T (mkF m nx Ls st)) : Wp p e below s K N Q T (mkF m pc Ls (.ref a :: st)) := by
  obtain ⟨d, rfl, q1, q2⟩ := hd; exact Wp.go (fun t kk => XS.ifnullNo X.here hx rfl (hb hby d) rfl kk) k
theorem w_ifnullNull (X : Stand p l e R s m args below meth c T locs cells slots) (hx : p.tables.exec = Jvm.exec) (hby : c.code = bs) (hd : Jm bs pc (.ifnull o) o nx tg) (k : Wp p e below s K N Q T (mkF m tg Ls st)) : Wp p e below s K N Q T (mkF m pc Ls (.null :: st)) := by
  obtain ⟨d, -, q1, q2⟩ := hd; exact Wp.go (fun t kk => XS.ifnullYes X.here hx rfl rfl (hb hby d) rfl q1 q2 kk) k
theorem w_ldcI (X : Stand p l e R s m args below meth c T locs cells slots) (hx : p.tables.exec = Jvm.exec) (hby : c.code = bs) (hZ : Z.Warmed39 s.vm) {own : String} (hown : s.vm.findClass own = some m.cls) {index : Nat} {v : Int32} (w : (Cond.constant own index v).before a0 Z = true) (hd : In bs pc (.ldc index) 2 nx) (k : Wp p e below s K N Q T (mkF m nx Ls (.int v :: st))) : Wp p e below s K N Q T (mkF m pc Ls st) := by
  obtain ⟨d, rfl⟩ := hd; exact Wp.go (fun t kk => X.ldcInt hx hown (mvT hZ w) (g := mkF m pc Ls st) rfl (hb hby d) t kk) k
theorem w_ldcwI (X : Stand p l e R s m args below meth c T locs cells slots) (hx : p.tables.exec = Jvm.exec) (hby : c.code = bs) (hZ : Z.Warmed39 s.vm) {own : String} (hown : s.vm.findClass own = some m.cls) {index : Nat} {v : Int32} (w : (Cond.constant own index v).before a0 Z = true) (hd : In bs pc (.ldc_w index) 3 nx) (k : Wp p e below s K N Q T (mkF m nx Ls (.int v :: st))) : Wp p e below s K N Q T (mkF m pc Ls st) := by
  obtain ⟨d, rfl⟩ := hd; exact Wp.go (fun t kk => X.ldcWI hx hown (mvT hZ w) (g := mkF m pc Ls st) rfl (hb hby d) kk) k
theorem w_ldc2J (X : Stand p l e R s m args below meth c T locs cells slots) (hx : p.tables.exec = Jvm.exec) (hby : c.code = bs) (hZ : Z.Warmed39 s.vm) {own : String} (hown : s.vm.findClass own = some m.cls) {index : Nat} {v : Int64} (w : (Cond.constantLong own index v).before a0 Z = true) (hd : In bs pc (.ldc2_w index) 3 nx) (k : Wp p e below s K N Q T (mkF m nx Ls (.long v :: st))) : Wp p e below s K N Q T (mkF m pc Ls st) := by
  obtain ⟨d, rfl⟩ := hd; exact Wp.go (fun t kk => X.ldc2Long hx hown (mvT hZ w) (g := mkF m pc Ls st) rfl (hb hby d) t kk) k
theorem w_getS (X : Stand p l e R s m args below meth c T locs cells slots) (hx : p.tables.exec = Jvm.exec) (hby : c.code = bs) (hZ : Z.Warmed39 s.vm) {own : String} (hown : s.vm.findClass own = some m.cls) {R0 C n d host : String} {index : Nat} (w : (Cond.fieldLink own index R0 n d).before a0 Z = true ∨ (Cond.fieldLinkNest own index R0 n d host).before a0 Z = true) (via : Via Z R0 C n d) (eT : T.heap = h) {v : Value} (F : Sta Z h C n d v) (hd : In bs pc (.getstatic index) 3 nx) (k : ∀ T', Stand p l e R s m args below meth c T' locs cells slots → T'.heap = h → Wp p e below s K N Q T' (mkF m nx Ls (v :: st))) : Wp p e below s K N Q T (mkF m pc Ls st) := by
  obtain ⟨d, rfl⟩ := hd; obtain ⟨T', X', e', st'⟩ := getS2 X hx hZ hown w via eT F (g := mkF m pc Ls st) rfl (hb hby d); exact Wp.go st' (k T' X' e')
theorem w_getF (X : Stand p l e R s m args below meth c T locs cells slots) (hx : p.tables.exec = Jvm.exec) (hby : c.code = bs) (hZ : Z.Warmed39 s.vm) {own : String} (hown : s.vm.findClass own = some m.cls) {R0 C n d host : String} {index : Nat} (w : (Cond.fieldLink own index R0 n d).before a0 Z = true ∨ (Cond.fieldLinkNest own index R0 n d host).before a0 Z = true) (via : Via Z R0 C n d) (eT : T.heap = h) {a : Addr} {v : Value} (F : Fld Z h a C n d v) (hd : In bs pc (.getfield index) 3 nx) (k : ∀ T', Stand p l e R s m args below meth c T' locs cells slots → T'.heap = h → Wp p e below s K N Q T' (mkF m nx Ls (v :: st))) : Wp p e below s K N Q T (mkF m pc Ls (.ref a :: st)) := by
  obtain ⟨d, rfl⟩ := hd; obtain ⟨T', X', e', st'⟩ := getF X hx hZ hown w via eT F (g := mkF m pc Ls (.ref a :: st)) rfl rfl (hb hby d); exact Wp.go st' (k T' X' e')
theorem w_putF (X : Stand p l e R s m args below meth c T locs cells slots) (hx : p.tables.exec = Jvm.exec) (hby : c.code = bs) (hZ : Z.Warmed39 s.vm) {own : String} (hown : s.vm.findClass own = some m.cls) {R0 C n d host D : String} {index kk : Nat} {ty : FieldType} (w : (Cond.fieldLink own index R0 n d).before a0 Z = true ∨ (Cond.fieldLinkNest own index R0 n d host).before a0 Z = true) (via : Via Z R0 C n d) (eT : T.heap = h) {a : Addr} {v old : Value} (F : Fld Z h a C n d old) (E : Exa Z h a D) (Lw : (Cond.lays D C n d).before a0 Z = true ∨ ((Cond.laysFinal D C n d).before a0 Z = true ∧ own = C ∧ meth.name = "<init>")) (wi : (Cond.instantiable D kk).before a0 Z = true) (hty : parseFieldDescriptor d = some ty) (hn : narrow ty v = v) (hf : fits ty v = true) (hd : In bs pc (.putfield index) 3 nx) (k : ∀ T' h', Stand p l e R s m args below meth c T' (locs ++ [⟨a, Jvm.RoadKit.slotOf Z C n d⟩]) cells slots → T'.heap = h' → Wr h h' a (Jvm.RoadKit.slotOf Z C n d) v → Wp p e below s K N Q T' (mkF m nx Ls st)) : Wp p e below s K N Q T (mkF m pc Ls (v :: .ref a :: st)) := by
  obtain ⟨d, rfl⟩ := hd; obtain ⟨T', h', X', e', W', st'⟩ := putF X hx hZ hown w via eT F E Lw wi hty hn hf (g := mkF m pc Ls (v :: .ref a :: st)) rfl rfl (hb hby d); exact Wp.go st' (k T' h' X' e' W')
theorem w_putFN (X : Stand p l e R s m args below meth c T locs cells slots) (hx : p.tables.exec = Jvm.exec) (hby : c.code = bs) (hZ : Z.Warmed39 s.vm) {own : String} (hown : s.vm.findClass own = some m.cls) {R0 C n d D : String} {index kk : Nat} {ty : FieldType} (w : (Cond.fieldLink own index R0 n d).before a0 Z = true) (via : Via Z R0 C n d) (eT : T.heap = h) {a : Addr} {v v' old : Value} (F : Fld Z h a C n d old) (E : Exa Z h a D) (Lw : (Cond.lays D C n d).before a0 Z = true ∨ ((Cond.laysFinal D C n d).before a0 Z = true ∧ own = C ∧ meth.name = "<init>")) (wi : (Cond.instantiable D kk).before a0 Z = true) (hty : parseFieldDescriptor d = some ty) (hn : narrow ty v = v') (hf : fits ty v' = true) (hd : In bs pc (.putfield index) 3 nx) (k : ∀ T' h', Stand p l e R s m args below meth c T' (locs ++ [⟨a, Jvm.RoadKit.slotOf Z C n d⟩]) cells slots → T'.heap = h' → Wr h h' a (Jvm.RoadKit.slotOf Z C n d) v' → Wp p e below s K N Q T' (mkF m nx Ls st)) : Wp p e below s K N Q T (mkF m pc Ls (v :: .ref a :: st)) := by
  obtain ⟨d, rfl⟩ := hd; obtain ⟨T', h', X', e', W', st'⟩ := putFN X hx hZ hown w via eT F E Lw wi hty hn hf (g := mkF m pc Ls (v :: .ref a :: st)) rfl rfl (hb hby d); exact Wp.go st' (k T' h' X' e' W')
theorem w_newO (X : Stand p l e R s m args below meth c T locs cells slots) (hx : p.tables.exec = Jvm.exec) (hby : c.code = bs) (hZ : Z.Warmed39 s.vm) {own : String} (hown : s.vm.findClass own = some m.cls) {C : String} {index n : Nat} (w : (Cond.classLink own index C).before a0 Z = true) (wi : (Cond.instantiable C n).before a0 Z = true) (wz : (Cond.initialized C).before a0 Z = true) (eT : T.heap = h) (hd : In bs pc (.new index) 3 nx) (hc : cells + 1 ≤ R.cells) (hl : slots + n ≤ R.slots) (k : ∀ T' h' a, a = h.size → Stand p l e R s m args below meth c T' locs (cells + 1) (slots + n) → T'.heap = h' → Ext h h' → Exa Z h' a C → (∀ {D nm d : String} {ty : FieldType}, Laid Z a0 C D nm d → parseFieldDescriptor d = some ty → Fld Z h' a D nm d (defaultValue ty)) → Wp p e below s K N Q T' (mkF m nx Ls (.ref a :: st))) : Wp p e below s K N Q T (mkF m pc Ls st) := by
  obtain ⟨d, rfl⟩ := hd; obtain ⟨T', h', X', e', E', A', D', -, st'⟩ := newO X hx hZ hown w wi wz eT (g := mkF m pc Ls st) rfl (hb hby d) hc hl; exact Wp.go st' (k T' h' _ rfl X' e' E' A' D')
theorem w_newP (X : Stand p l e R s m args below meth c T locs cells slots) (hx : p.tables.exec = Jvm.exec) (hby : c.code = bs) (hZ : Z.Warmed39 s.vm) {aty : ArrayType} (w : (Cond.arrayClass (newarray.typeOf aty)).before a0 Z = true) (eT : T.heap = h) {n : Int32} (hd : In bs pc (.newarray aty) 2 nx) (hn : ¬ n < 0) (cap : Nat) (hcap : n.toNatClampNeg ≤ cap) (hbig : cap * 8 ≤ 536870912) (hc : cells + 1 ≤ R.cells) (hl : slots + cap ≤ R.slots) (k : ∀ T' h' a kA, a = h.size → Stand p l e R s m args below meth c T' locs (cells + 1) (slots + cap) → T'.heap = h' → Ext h h' → Arr Z h' a (newA kA (newarray.typeOf aty) n) (newarray.typeOf aty) → Wp p e below s K N Q T' (mkF m nx Ls (.ref a :: st))) : Wp p e below s K N Q T (mkF m pc Ls (.int n :: st)) := by
  obtain ⟨d, rfl⟩ := hd; obtain ⟨T', h', kA, X', e', E', A', st'⟩ := newP X hx hZ w eT (g := mkF m pc Ls (.int n :: st)) rfl (hb hby d) rfl hn hcap hbig hc hl; exact Wp.go st' (k T' h' _ kA rfl X' e' E' A')
theorem w_newR (X : Stand p l e R s m args below meth c T locs cells slots) (hx : p.tables.exec = Jvm.exec) (hby : c.code = bs) (hZ : Z.Warmed39 s.vm) {own : String} (hown : s.vm.findClass own = some m.cls) {C : String} {index : Nat} (w1 : (Cond.classLink own index C).before a0 Z = true) (w2 : (Cond.arrayOver (.object C)).before a0 Z = true) (eT : T.heap = h) {n : Int32} (hd : In bs pc (.anewarray index) 3 nx) (hn : ¬ n < 0) (cap : Nat) (hcap : n.toNatClampNeg ≤ cap) (hbig : cap * 8 ≤ 536870912) (hc : cells + 1 ≤ R.cells) (hl : slots + cap ≤ R.slots) (k : ∀ T' h' a kA, a = h.size → Stand p l e R s m args below meth c T' locs (cells + 1) (slots + cap) → T'.heap = h' → Ext h h' → Arr Z h' a (newA kA (.object C) n) (.object C) → Ovr Z kA C → Wp p e below s K N Q T' (mkF m nx Ls (.ref a :: st))) : Wp p e below s K N Q T (mkF m pc Ls (.int n :: st)) := by
  obtain ⟨d, rfl⟩ := hd; obtain ⟨T', h', kA, X', e', E', A', O', st'⟩ := newR X hx hZ hown w1 w2 eT (g := mkF m pc Ls (.int n :: st)) rfl (hb hby d) rfl hn hcap hbig hc hl; exact Wp.go st' (k T' h' _ kA rfl X' e' E' A' O')
theorem w_stI (X : Stand p l e R s m args below meth c T locs cells slots) (hx : p.tables.exec = Jvm.exec) (hby : c.code = bs) (hZ : Z.Warmed39 s.vm) (eT : T.heap = h) {a : Addr} {cl : Cell} (A : Arr Z h a cl .int) {j : Int32} {x : Int32} (hj : ¬ (j < 0 ∨ cl.slots.size ≤ j.toNatClampNeg)) (hd : In bs pc .iastore 1 nx) (k : ∀ T' h', Stand p l e R s m args below meth c T' (locs ++ [⟨a, j.toNatClampNeg⟩]) cells slots → T'.heap = h' → Wr h h' a j.toNatClampNeg (.int x) → Wp p e below s K N Q T' (mkF m nx Ls st)) : Wp p e below s K N Q T (mkF m pc Ls (.int x :: .int j :: .ref a :: st)) := by
  obtain ⟨d, rfl⟩ := hd; obtain ⟨T', h', X', e', W', st'⟩ := stI X hx hZ eT A hj (g := mkF m pc Ls (.int x :: .int j :: .ref a :: st)) rfl rfl (hb hby d); exact Wp.go st' (k T' h' X' e' W')
theorem w_stJ (X : Stand p l e R s m args below meth c T locs cells slots) (hx : p.tables.exec = Jvm.exec) (hby : c.code = bs) (hZ : Z.Warmed39 s.vm) (eT : T.heap = h) {a : Addr} {cl : Cell} (A : Arr Z h a cl .long) {j : Int32} {x : Int64} (hj : ¬ (j < 0 ∨ cl.slots.size ≤ j.toNatClampNeg)) (hd : In bs pc .lastore 1 nx) (k : ∀ T' h', Stand p l e R s m args below meth c T' (locs ++ [⟨a, j.toNatClampNeg⟩]) cells slots → T'.heap = h' → Wr h h' a j.toNatClampNeg (.long x) → Wp p e below s K N Q T' (mkF m nx Ls st)) : Wp p e below s K N Q T (mkF m pc Ls (.long x :: .int j :: .ref a :: st)) := by
  obtain ⟨d, rfl⟩ := hd; obtain ⟨T', h', X', e', W', st'⟩ := stJ X hx hZ eT A hj (g := mkF m pc Ls (.long x :: .int j :: .ref a :: st)) rfl rfl (hb hby d); exact Wp.go st' (k T' h' X' e' W')
theorem w_stC (X : Stand p l e R s m args below meth c T locs cells slots) (hx : p.tables.exec = Jvm.exec) (hby : c.code = bs) (hZ : Z.Warmed39 s.vm) (eT : T.heap = h) {a : Addr} {cl : Cell} (A : Arr Z h a cl .char) {j : Int32} {x : Int32} (hj : ¬ (j < 0 ∨ cl.slots.size ≤ j.toNatClampNeg)) (hd : In bs pc .castore 1 nx) (k : ∀ T' h', Stand p l e R s m args below meth c T' (locs ++ [⟨a, j.toNatClampNeg⟩]) cells slots → T'.heap = h' → Wr h h' a j.toNatClampNeg (.int (nar .char x)) → Wp p e below s K N Q T' (mkF m nx Ls st)) : Wp p e below s K N Q T (mkF m pc Ls (.int x :: .int j :: .ref a :: st)) := by
  obtain ⟨d, rfl⟩ := hd; obtain ⟨T', h', X', e', W', st'⟩ := stC X hx hZ eT A hj (g := mkF m pc Ls (.int x :: .int j :: .ref a :: st)) rfl rfl (hb hby d); exact Wp.go st' (k T' h' X' e' W')
theorem w_stB (X : Stand p l e R s m args below meth c T locs cells slots) (hx : p.tables.exec = Jvm.exec) (hby : c.code = bs) (hZ : Z.Warmed39 s.vm) (eT : T.heap = h) {a : Addr} {cl : Cell} (A : Arr Z h a cl .byte) {j : Int32} {x : Int32} (hj : ¬ (j < 0 ∨ cl.slots.size ≤ j.toNatClampNeg)) (hd : In bs pc .bastore 1 nx) (k : ∀ T' h', Stand p l e R s m args below meth c T' (locs ++ [⟨a, j.toNatClampNeg⟩]) cells slots → T'.heap = h' → Wr h h' a j.toNatClampNeg (.int (nar .byte x)) → Wp p e below s K N Q T' (mkF m nx Ls st)) : Wp p e below s K N Q T (mkF m pc Ls (.int x :: .int j :: .ref a :: st)) := by
  obtain ⟨d, rfl⟩ := hd; obtain ⟨T', h', X', e', W', st'⟩ := stB X hx hZ eT A hj (g := mkF m pc Ls (.int x :: .int j :: .ref a :: st)) rfl rfl (hb hby d); exact Wp.go st' (k T' h' X' e' W')
theorem w_stZ (X : Stand p l e R s m args below meth c T locs cells slots) (hx : p.tables.exec = Jvm.exec) (hby : c.code = bs) (hZ : Z.Warmed39 s.vm) (eT : T.heap = h) {a : Addr} {cl : Cell} (A : Arr Z h a cl .boolean) {j : Int32} {x : Int32} (hj : ¬ (j < 0 ∨ cl.slots.size ≤ j.toNatClampNeg)) (hd : In bs pc .bastore 1 nx) (k : ∀ T' h', Stand p l e R s m args below meth c T' (locs ++ [⟨a, j.toNatClampNeg⟩]) cells slots → T'.heap = h' → Wr h h' a j.toNatClampNeg (.int (nar .boolean x)) → Wp p e below s K N Q T' (mkF m nx Ls st)) : Wp p e below s K N Q T (mkF m pc Ls (.int x :: .int j :: .ref a :: st)) := by
  obtain ⟨d, rfl⟩ := hd; obtain ⟨T', h', X', e', W', st'⟩ := stZ X hx hZ eT A hj (g := mkF m pc Ls (.int x :: .int j :: .ref a :: st)) rfl rfl (hb hby d); exact Wp.go st' (k T' h' X' e' W')
theorem w_stR (X : Stand p l e R s m args below meth c T locs cells slots) (hx : p.tables.exec = Jvm.exec) (hby : c.code = bs) (hZ : Z.Warmed39 s.vm) (eT : T.heap = h) {a : Addr} {cl : Cell} {ty : FieldType} (A : Arr Z h a cl ty) {j : Int32} {v : Value} (hj : ¬ (j < 0 ∨ cl.slots.size ≤ j.toNatClampNeg)) (hty : ty.isReference = true) (F : Sto Z h a v) (hd : In bs pc .aastore 1 nx) (k : ∀ T' h', Stand p l e R s m args below meth c T' (locs ++ [⟨a, j.toNatClampNeg⟩]) cells slots → T'.heap = h' → Wr h h' a j.toNatClampNeg v → Wp p e below s K N Q T' (mkF m nx Ls st)) : Wp p e below s K N Q T (mkF m pc Ls (v :: .int j :: .ref a :: st)) := by
  obtain ⟨d, rfl⟩ := hd; obtain ⟨T', h', X', e', W', st'⟩ := stR X hx hZ eT A hj hty F (g := mkF m pc Ls (v :: .int j :: .ref a :: st)) rfl rfl (hb hby d); exact Wp.go st' (k T' h' X' e' W')
theorem w_iaload (X : Stand p l e R s m args below meth c T locs cells slots) (hx : p.tables.exec = Jvm.exec) (hby : c.code = bs) (hZ : Z.Warmed39 s.vm) (eT : T.heap = h) {a : Addr} {cl : Cell} (A : Arr Z h a cl .int) {j : Int32} {v : Value} (hj : ¬ (j < 0 ∨ cl.slots.size ≤ j.toNatClampNeg)) (hv : cl.slots[j.toNatClampNeg]? = some v) (hd : In bs pc .iaload 1 nx) (k : Wp p e below s K N Q T (mkF m nx Ls (v :: st))) : Wp p e below s K N Q T (mkF m pc Ls (.int j :: .ref a :: st)) := by
  obtain ⟨d, rfl⟩ := hd; exact Wp.go (fun t kk => X.iaload hx (by rw [eT]; exact A.1) (State.isArrayOf_alike hZ.alike A.2.1) A.2.2 hj hv (g := mkF m pc Ls (.int j :: .ref a :: st)) rfl rfl (hb hby d) t kk) k
theorem w_laload (X : Stand p l e R s m args below meth c T locs cells slots) (hx : p.tables.exec = Jvm.exec) (hby : c.code = bs) (hZ : Z.Warmed39 s.vm) (eT : T.heap = h) {a : Addr} {cl : Cell} (A : Arr Z h a cl .long) {j : Int32} {v : Value} (hj : ¬ (j < 0 ∨ cl.slots.size ≤ j.toNatClampNeg)) (hv : cl.slots[j.toNatClampNeg]? = some v) (hd : In bs pc .laload 1 nx) (k : Wp p e below s K N Q T (mkF m nx Ls (v :: st))) : Wp p e below s K N Q T (mkF m pc Ls (.int j :: .ref a :: st)) := by
  obtain ⟨d, rfl⟩ := hd; exact Wp.go (fun t kk => X.laload hx (by rw [eT]; exact A.1) (State.isArrayOf_alike hZ.alike A.2.1) A.2.2 hj hv (g := mkF m pc Ls (.int j :: .ref a :: st)) rfl rfl (hb hby d) t kk) k
theorem w_caload (X : Stand p l e R s m args below meth c T locs cells slots) (hx : p.tables.exec = Jvm.exec) (hby : c.code = bs) (hZ : Z.Warmed39 s.vm) (eT : T.heap = h) {a : Addr} {cl : Cell} (A : Arr Z h a cl .char) {j : Int32} {v : Value} (hj : ¬ (j < 0 ∨ cl.slots.size ≤ j.toNatClampNeg)) (hv : cl.slots[j.toNatClampNeg]? = some v) (hd : In bs pc .caload 1 nx) (k : Wp p e below s K N Q T (mkF m nx Ls (v :: st))) : Wp p e below s K N Q T (mkF m pc Ls (.int j :: .ref a :: st)) := by
  obtain ⟨d, rfl⟩ := hd; exact Wp.go (fun t kk => X.caload hx (by rw [eT]; exact A.1) (State.isArrayOf_alike hZ.alike A.2.1) A.2.2 hj hv (g := mkF m pc Ls (.int j :: .ref a :: st)) rfl rfl (hb hby d) t kk) k
theorem w_baload (X : Stand p l e R s m args below meth c T locs cells slots) (hx : p.tables.exec = Jvm.exec) (hby : c.code = bs) (hZ : Z.Warmed39 s.vm) (eT : T.heap = h) {a : Addr} {cl : Cell} (A : Arr Z h a cl .byte) {j : Int32} {v : Value} (hj : ¬ (j < 0 ∨ cl.slots.size ≤ j.toNatClampNeg)) (hv : cl.slots[j.toNatClampNeg]? = some v) (hd : In bs pc .baload 1 nx) (k : Wp p e below s K N Q T (mkF m nx Ls (v :: st))) : Wp p e below s K N Q T (mkF m pc Ls (.int j :: .ref a :: st)) := by
  obtain ⟨d, rfl⟩ := hd; exact Wp.go (fun t kk => X.baloadBytes hx (by rw [eT]; exact A.1) (State.isArrayOf_alike hZ.alike A.2.1) A.2.2 hj hv (g := mkF m pc Ls (.int j :: .ref a :: st)) rfl rfl (hb hby d) t kk) k
theorem w_aaload (X : Stand p l e R s m args below meth c T locs cells slots) (hx : p.tables.exec = Jvm.exec) (hby : c.code = bs) (hZ : Z.Warmed39 s.vm) (eT : T.heap = h) {a : Addr} {cl : Cell} {ty : FieldType} (A : Arr Z h a cl ty) (hty : ty.isReference = true) {j : Int32} {v : Value} (hj : ¬ (j < 0 ∨ cl.slots.size ≤ j.toNatClampNeg)) (hv : cl.slots[j.toNatClampNeg]? = some v) (hd : In bs pc .aaload 1 nx) (k : Wp p e below s K N Q T (mkF m nx Ls (v :: st))) : Wp p e below s K N Q T (mkF m pc Ls (.int j :: .ref a :: st)) := by
  obtain ⟨d, rfl⟩ := hd; exact Wp.go (fun t kk => X.aaload hx (by rw [eT]; exact A.1) (State.isArrayOf_alike hZ.alike A.2.1) hty A.2.2 hj hv (g := mkF m pc Ls (.int j :: .ref a :: st)) rfl rfl (hb hby d) t kk) k
theorem w_arraylength (X : Stand p l e R s m args below meth c T locs cells slots) (hx : p.tables.exec = Jvm.exec) (hby : c.code = bs) (hZ : Z.Warmed39 s.vm) (eT : T.heap = h) {a : Addr} {cl : Cell} {ty : FieldType} (A : Arr Z h a cl ty) {z : Int32} (hz : cl.slots.size.toInt32 = z) (hd : In bs pc .arraylength 1 nx) (k : Wp p e below s K N Q T (mkF m nx Ls (.int z :: st))) : Wp p e below s K N Q T (mkF m pc Ls (.ref a :: st)) := by
  obtain ⟨d, rfl⟩ := hd; subst hz; exact Wp.go (fun t kk => X.arraylength hx (by rw [eT]; exact A.1) (State.isArrayOf_alike hZ.alike A.2.1) (g := mkF m pc Ls (.ref a :: st)) rfl rfl (hb hby d) t kk) k
theorem w_initO (X : Stand p l e R s m args below meth c T locs cells slots) (hx : p.tables.exec = Jvm.exec) (hby : c.code = bs) (hZ : Z.Warmed39 s.vm) {own : String} (hown : s.vm.findClass own = some m.cls) (hml : Ls.size = c.maxLocals) {idx : Nat} (w1 : (Cond.methodLink own idx Lib.objectInit).before a0 Z = true) (w2 : (Cond.instanceMethod Lib.objectInit).before a0 Z = true) (w3 : (Cond.code Lib.objectInit ⟨#[0xb1]⟩ 1 none).before a0 Z = true) (eT : T.heap = h) {a : Addr} (hd : In bs pc (.invokespecial idx) 3 nx) (hf : 1 ≤ R.frames) {Wd : Nat} (hW : (st.map fun v => v.category).sum = Wd) (hl : Wd + 12 ≤ R.locals) (k : ∀ T', Stand p l e R s m args below meth c T' locs cells slots → T'.heap = h → Wp p e below s K N Q T' (mkF m nx Ls st)) : Wp p e below s K N Q T (mkF m pc Ls (.ref a :: st)) := by
  obtain ⟨d, rfl⟩ := hd; obtain ⟨T', X', e', st'⟩ := initO X hx hZ hown w1 w2 w3 eT (g := mkF m pc Ls (.ref a :: st)) rfl hml rfl (hb hby d) hf (W := Wd) (by show 2 * 0 + _ ≤ _; omega) hl; exact Wp.go st' (k T' X' e')
/-- a body's contract: called on as' at the heap h it returns as Q says, within the room rm -/
def Con (l : Launch) (Z : State) (y : MethodName) (bs : ByteArray) (ml : Nat) (rt : Option FieldType) (rm : Room) (as' : Array Value) (h : Heap) (Q : Option Value → Heap → List Loc → Prop) : Prop :=
  ∀ ws : List Jvm.Cond, MetFree l y (head1 (Jvm.Cond.code y bs ml rt :: ws) rm) (fun a U => a = as' ∧ Z.Warmed39 U.vm ∧ U.heap = h) (fun _ _ _ _ _ => True) (fun _ U o U' => ∃ v L, o = .returned v ∧ Q v U'.heap L ∧ FrameEnd U o U' L rm.cells rm.slots)
theorem w_body {y : MethodName} {ml : Nat} {rt : Option FieldType} {rm : Room} {as' : Array Value} (hy : plainFor y = true) (hf : ∀ m, entryFrame m as' ml = mkF m 0 Ls [])
    (k : ∀ (p : Program) (e : Env) (s : State) (m : MethodId) (below : List Frame) (meth : Method) (c : Code) (T : State), Stand p l e rm s m as' below meth c T [] 0 0 → p.tables.exec = Jvm.exec → c.code = bs → c.maxLocals = ml → s.vm.findClass y.cls = some m.cls → meth.name = y.name → meth.sig.returnType = rt → meth.locks = false → Z.Warmed39 s.vm → T.heap = h → Wp p e below s rm.cells rm.slots Q T (mkF m 0 Ls [])) : Con l Z y bs ml rt rm as' h Q := by
  intro ws
  refine MetFree.of_bodySF hy hisR ?_
  intro p e s m args below meth c s₁ Bd hml0 hP hK
  obtain ⟨rfl, hZ, hh⟩ := hP
  have e0 : s₁.heap = h := by rw [← hh, Bd.state]; rfl
  rw [hf m]
  exact k p e s m below meth c s₁ (Stand.of_body Bd) Bd.exec Bd.bytes hml0 (findClass_of_methodNamed Bd.named) (name_of_methodNamed Bd.named Bd.method).1 Bd.returns (BodyLoose.notSynchronized Bd) hZ e0
/-- what a call leaves -/
def Called (p : Program) (l : Launch) (e : Env) (R : Room) (s : State) (m : MethodId) (args : Array Value) (below : List Frame) (meth : Method) (c : Code) (T : State) (locs : List Loc) (cells slots : Nat) (rm : Room) (Qc : Option Value → Heap → List Loc → Prop) (pc nx : Nat) (Ls : Array Slot) (stk rest : List Value) : Prop :=
  ∃ v T' L, Stand p l e R s m args below meth c T' (locs ++ L) (cells + rm.cells) (slots + rm.slots) ∧ Qc v T'.heap L ∧ Steps p.tables e below (T.setTop (mkF m pc Ls stk)) (T'.setTop (mkF m nx Ls (v.toList ++ rest)))
theorem call_S (X : Stand p l e R s m args below meth c T locs cells slots) (hx : p.tables.exec = Jvm.exec) (hby : c.code = bs) (hZ : Z.Warmed39 s.vm) {own : String} (hown : s.vm.findClass own = some m.cls) {y : MethodName} {ml : Nat} {rt : Option FieldType} {rm : Room} {as' : Array Value} {Qc : Option Value → Heap → List Loc → Prop} {index : Nat} {argsL rest : List Value} {Wd : Nat} {bs' : ByteArray} (w1 : (Cond.methodLink own index y).before a0 Z = true) (w2 : (Cond.static y).before a0 Z = true) (wz : (Cond.initialized y.cls).before a0 Z = true) (wc : (Cond.code y bs' ml rt).before a0 Z = true) (hy : y.cls ≠ "java/lang/invoke/MethodHandle" ∧ y.cls ≠ "java/lang/invoke/VarHandle") (con : Con l Z y bs' ml rt rm as' h Qc) (ha : argsL.toArray = as') (hd : In bs pc (.invokestatic index) 3 nx) (hsz : Ls.size = c.maxLocals) (hlen : ∀ sig, parseMethodDescriptor y.desc = some sig → argsL.length = sig.parameters.length) (hW : (rest.map fun v => v.category).sum = Wd) (hfr : rm.frames + 1 ≤ R.frames) (hlo : Wd + (ml + 11) + rm.locals ≤ R.locals) (hce : cells + rm.cells ≤ R.cells) (hso : slots + rm.slots ≤ R.slots) (eT : T.heap = h) : Called p l e R s m args below meth c T locs cells slots rm Qc pc nx Ls (argsL.reverse ++ rest) rest := by
  obtain ⟨d, rfl⟩ := hd
  obtain ⟨v, vm, ⟨T', L', k', n'⟩, -, X', ⟨L, q, l', y', z'⟩, st'⟩ := Jvm.LawKit.callS X hx (y := y) hown (mvT hZ w1) (mvT hZ w2) (mvT hZ wz) (mvT hZ wc) hy (backOf (W := Wd) (con []) hZ wc wz hfr hlo) (g := mkF m pc Ls (argsL.reverse ++ rest)) rfl hsz (argsL := argsL) (rest := rest) hlen rfl (by show 2 * 0 + _ ≤ _; omega) (hb hby d) (fun _ _ => ⟨ha, eT, hce, hso⟩)
  dsimp only [Pt.U, Pt.locs, Pt.cells, Pt.slots] at X' l' y' z' st' q
  subst l' y' z'
  exact ⟨v, T', L, X', q, st' _ (Steps.refl _)⟩
theorem call_N (X : Stand p l e R s m args below meth c T locs cells slots) (hx : p.tables.exec = Jvm.exec) (hby : c.code = bs) (hZ : Z.Warmed39 s.vm) {own : String} (hown : s.vm.findClass own = some m.cls) {y : MethodName} {ml : Nat} {rm : Room} {as' : Array Value} {Qc : Option Value → Heap → List Loc → Prop} {index : Nat} {argsL rest : List Value} {Wd : Nat} {bs' : ByteArray} {a : Addr} (hn : y.name = "<init>") (w1 : (Cond.methodLink own index y).before a0 Z = true) (w2 : (Cond.instanceMethod y).before a0 Z = true) (wz : (Cond.initialized y.cls).before a0 Z = true) (wc : (Cond.code y bs' ml none).before a0 Z = true) (hy : y.cls ≠ "java/lang/invoke/MethodHandle" ∧ y.cls ≠ "java/lang/invoke/VarHandle") (con : Con l Z y bs' ml none rm as' h Qc) (ha : (.ref a :: argsL).toArray = as') (hd : In bs pc (.invokespecial index) 3 nx) (hsz : Ls.size = c.maxLocals) (hlen : ∀ sig, parseMethodDescriptor y.desc = some sig → argsL.length = sig.parameters.length) (hW : (rest.map fun v => v.category).sum = Wd) (hfr : rm.frames + 1 ≤ R.frames) (hlo : Wd + (ml + 11) + rm.locals ≤ R.locals) (hce : cells + rm.cells ≤ R.cells) (hso : slots + rm.slots ≤ R.slots) (eT : T.heap = h) : Called p l e R s m args below meth c T locs cells slots rm Qc pc nx Ls (argsL.reverse ++ .ref a :: rest) rest := by
  obtain ⟨d, rfl⟩ := hd
  obtain ⟨v, vm, ⟨T', L', k', n'⟩, -, X', ⟨L, q, l', y', z'⟩, st'⟩ := X.specialBack hx (y := y) hn hown (mvT hZ w1) (mvT hZ w2) (mvT hZ wc) hy (backOf (W := Wd) (con []) hZ wc wz hfr hlo) (g := mkF m pc Ls (argsL.reverse ++ .ref a :: rest)) rfl hsz (Steps.refl _) (a := a) (argsL := argsL) (rest := rest) hlen rfl (by show 2 * 0 + _ ≤ _; omega) (hb hby d) (fun _ _ => ⟨ha, eT, hce, hso⟩)
  dsimp only [Pt.U, Pt.locs, Pt.cells, Pt.slots] at X' l' y' z' st' q
  subst l' y' z'
  exact ⟨v, T', L, X', q, st'⟩
theorem call_V (X : Stand p l e R s m args below meth c T locs cells slots) (hx : p.tables.exec = Jvm.exec) (hby : c.code = bs) (hZ : Z.Warmed39 s.vm) {own : String} (hown : s.vm.findClass own = some m.cls) {y : MethodName} {ml : Nat} {rt : Option FieldType} {rm : Room} {as' : Array Value} {Qc : Option Value → Heap → List Loc → Prop} {index : Nat} {argsL rest : List Value} {Wd : Nat} {bs' : ByteArray} {a : Addr} {C : String} (w1 : (Cond.methodLink own index y).before a0 Z = true) (w2 : (Cond.declares y).before a0 Z = true) (w3 : (Cond.selects C y y).before a0 Z = true) (w4 : (Cond.instanceMethod y).before a0 Z = true) (wz : (Cond.initialized y.cls).before a0 Z = true) (wc : (Cond.code y bs' ml rt).before a0 Z = true) (hy : y.cls ≠ "java/lang/invoke/MethodHandle" ∧ y.cls ≠ "java/lang/invoke/VarHandle") (E : Exa Z h a C) (con : Con l Z y bs' ml rt rm as' h Qc) (ha : (.ref a :: argsL).toArray = as') (hd : In bs pc (.invokevirtual index) 3 nx) (hsz : Ls.size = c.maxLocals) (hlen : ∀ sig, parseMethodDescriptor y.desc = some sig → argsL.length = sig.parameters.length) (hW : (rest.map fun v => v.category).sum = Wd) (hfr : rm.frames + 1 ≤ R.frames) (hlo : Wd + (ml + 11) + rm.locals ≤ R.locals) (hce : cells + rm.cells ≤ R.cells) (hso : slots + rm.slots ≤ R.slots) (eT : T.heap = h) : Called p l e R s m args below meth c T locs cells slots rm Qc pc nx Ls (argsL.reverse ++ .ref a :: rest) rest := by
  obtain ⟨d, rfl⟩ := hd
  obtain ⟨cq, kq, qa, qb, qc⟩ := isOf hZ eT E
  obtain ⟨v, vm, ⟨T', L', k', n'⟩, -, X', ⟨L, q, l', y', z'⟩, st'⟩ := X.virtualBack hx (y := y) (z := y) hown (mvT hZ w1) (mvT hZ w2) (notFace_of_selects (args := #[]) (mvT hZ w3)) (mvT hZ w3) (mvT hZ w4) hy (backOf (W := Wd) (con []) hZ wc wz hfr hlo) qa qc (g := mkF m pc Ls (argsL.reverse ++ .ref a :: rest)) rfl hsz (Steps.refl _) (argsL := argsL) (rest := rest) hlen rfl (by show 2 * 0 + _ ≤ _; omega) (hb hby d) (fun _ _ => ⟨ha, eT, hce, hso⟩)
  dsimp only [Pt.U, Pt.locs, Pt.cells, Pt.slots] at X' l' y' z' st' q
  subst l' y' z'
  exact ⟨v, T', L, X', q, st'⟩
theorem call_U (X : Stand p l e R s m args below meth c T locs cells slots) (hx : p.tables.exec = Jvm.exec) (hby : c.code = bs) (hZ : Z.Warmed39 s.vm) {own : String} (hown : s.vm.findClass own = some m.cls) {y : MethodName} {ml : Nat} {rt : Option FieldType} {rm : Room} {as' : Array Value} {Qc : Option Value → Heap → List Loc → Prop} {index : Nat} {argsL rest : List Value} {Wd : Nat} {bs' : ByteArray} {x : MethodName} {a : Addr} {C owner : String} (w1 : (Cond.methodLink own index x).before a0 Z = true) (w2 : (Cond.sameMethod x.cls owner x.name x.desc).before a0 Z = true) (w5 : (Cond.declares ⟨owner, x.name, x.desc⟩).before a0 Z = true) (ho : owner ≠ "java/lang/invoke/MethodHandle" ∧ owner ≠ "java/lang/invoke/VarHandle") (w3 : (Cond.selects C x y).before a0 Z = true) (w4 : (Cond.instanceMethod y).before a0 Z = true) (wz : (Cond.initialized y.cls).before a0 Z = true) (wc : (Cond.code y bs' ml rt).before a0 Z = true) (E : Exa Z h a C) (con : Con l Z y bs' ml rt rm as' h Qc) (ha : (.ref a :: argsL).toArray = as') (hd : In bs pc (.invokevirtual index) 3 nx) (hsz : Ls.size = c.maxLocals) (hlen : ∀ sig, parseMethodDescriptor x.desc = some sig → argsL.length = sig.parameters.length) (hW : (rest.map fun v => v.category).sum = Wd) (hfr : rm.frames + 1 ≤ R.frames) (hlo : Wd + (ml + 11) + rm.locals ≤ R.locals) (hce : cells + rm.cells ≤ R.cells) (hso : slots + rm.slots ≤ R.slots) (eT : T.heap = h) : Called p l e R s m args below meth c T locs cells slots rm Qc pc nx Ls (argsL.reverse ++ .ref a :: rest) rest := by
  obtain ⟨d, rfl⟩ := hd
  obtain ⟨cq, kq, qa, qb, qc⟩ := isOf hZ eT E
  obtain ⟨v, vm, ⟨T', L', k', n'⟩, -, X', ⟨L, q, l', y', z'⟩, st'⟩ := X.virtualBackUp hx (x := x) (y := y) hown (mvT hZ w1) (mvT hZ w2) (mvT hZ w5) ho (mvT hZ w3) (mvT hZ w4) (backOf (W := Wd) (con []) hZ wc wz hfr hlo) qa qc (g := mkF m pc Ls (argsL.reverse ++ .ref a :: rest)) rfl hsz (Steps.refl _) (argsL := argsL) (rest := rest) hlen rfl (by show 2 * 0 + _ ≤ _; omega) (hb hby d) (fun _ _ => ⟨ha, eT, hce, hso⟩)
  dsimp only [Pt.U, Pt.locs, Pt.cells, Pt.slots] at X' l' y' z' st' q
  subst l' y' z'
  exact ⟨v, T', L, X', q, st'⟩
/-- behind a call -/
theorem w_called {rm : Room} {Qc : Option Value → Heap → List Loc → Prop} {stk rest : List Value} (hc : Called p l e R s m args below meth c T locs cells slots rm Qc pc nx Ls stk rest)
    (k : ∀ v T' L, Stand p l e R s m args below meth c T' (locs ++ L) (cells + rm.cells) (slots + rm.slots) → Qc v T'.heap L → Wp p e below s K N Q T' (mkF m nx Ls (v.toList ++ rest))) : Wp p e below s K N Q T (mkF m pc Ls stk) := by
  obtain ⟨v, T', L, X', q, st'⟩ := hc; exact Wp.tr st' (k v T' L X' q)
/-- behind a call that writes nothing and makes nothing -/
theorem w_calledp {rm : Room} {w : Value} {stk rest : List Value} (hc : Called p l e R s m args below meth c T locs cells slots rm (fun v h' L => v = some w ∧ h' = h ∧ L = []) pc nx Ls stk rest) (h1 : rm.cells = 0) (h2 : rm.slots = 0)
    (k : ∀ T', Stand p l e R s m args below meth c T' locs cells slots → T'.heap = h → Wp p e below s K N Q T' (mkF m nx Ls (w :: rest))) : Wp p e below s K N Q T (mkF m pc Ls stk) := by
  obtain ⟨v, T', L, X', ⟨rfl, q, rfl⟩, st'⟩ := hc
  rw [h1, h2, List.append_nil] at X'
  exact Wp.tr st' (k T' X' q)
theorem w_retI (X : Stand p l e R s m args below meth c T locs cells slots) (hx : p.tables.exec = Jvm.exec) (hby : c.code = bs) (eT : T.heap = h) (hlk : meth.locks = false) {z : Int32} (hret : meth.sig.returnType = some .int) (hd : In bs pc .ireturn 1 nx) (hK : cells ≤ K) (hN : slots ≤ N) (q : Q (some (.int z)) h locs) : Wp p e below s K N Q T (mkF m pc Ls (.int z :: st)) := by
  obtain ⟨fs, hr, hrun, hended, hW, hsame⟩ := X.leave (v := some (.int z)) (fun h => by rw [hret] at h; cases h) hlk
  subst eT
  refine ⟨_, _, ?_, hrun, hended, _, _, rfl, q, ⟨_, rfl⟩, hW, hsame.mono hK hN⟩
  exact retOut X hx hret rfl (Or.inl ⟨rfl, Or.inl rfl, z, rfl⟩) (hb hby hd.1) hr
theorem w_retN (X : Stand p l e R s m args below meth c T locs cells slots) (hx : p.tables.exec = Jvm.exec) (hby : c.code = bs) (eT : T.heap = h) (hlk : meth.locks = false) {z : Int32} {t : FieldType} (hret : meth.sig.returnType = some t) (ht : t = .boolean ∨ t = .byte ∨ t = .char ∨ t = .short) (hd : In bs pc .ireturn 1 nx) (hK : cells ≤ K) (hN : slots ≤ N) (q : Q (some (.int (nar t z))) h locs) : Wp p e below s K N Q T (mkF m pc Ls (.int z :: st)) := by
  obtain ⟨fs, hr, hrun, hended, hW, hsame⟩ := X.leave (v := some (.int (nar t z))) (fun h => by rw [hret] at h; cases h) hlk
  subst eT
  refine ⟨_, _, ?_, hrun, hended, _, _, rfl, q, ⟨_, rfl⟩, hW, hsame.mono hK hN⟩
  exact retN X hx hret ht (hb hby hd.1) hr
theorem w_retJ (X : Stand p l e R s m args below meth c T locs cells slots) (hx : p.tables.exec = Jvm.exec) (hby : c.code = bs) (eT : T.heap = h) (hlk : meth.locks = false) {z : Int64} (hret : meth.sig.returnType = some .long) (hd : In bs pc .lreturn 1 nx) (hK : cells ≤ K) (hN : slots ≤ N) (q : Q (some (.long z)) h locs) : Wp p e below s K N Q T (mkF m pc Ls (.long z :: st)) := by
  obtain ⟨fs, hr, hrun, hended, hW, hsame⟩ := X.leave (v := some (.long z)) (fun h => by rw [hret] at h; cases h) hlk
  subst eT
  refine ⟨_, _, ?_, hrun, hended, _, _, rfl, q, ⟨_, rfl⟩, hW, hsame.mono hK hN⟩
  exact retOut X hx hret rfl (Or.inr (Or.inl ⟨rfl, rfl, z, rfl⟩)) (hb hby hd.1) hr
theorem w_retA (X : Stand p l e R s m args below meth c T locs cells slots) (hx : p.tables.exec = Jvm.exec) (hby : c.code = bs) (eT : T.heap = h) (hlk : meth.locks = false) {w : Value} {t : FieldType} (hret : meth.sig.returnType = some t) (ht : t.isReference = true) (hw : w.isRef = true) (hn : narrow t w = w) (hd : In bs pc .areturn 1 nx) (hK : cells ≤ K) (hN : slots ≤ N) (q : Q (some w) h locs) : Wp p e below s K N Q T (mkF m pc Ls (w :: st)) := by
  obtain ⟨fs, hr, hrun, hended, hW, hsame⟩ := X.leave (v := some w) (fun h => by rw [hret] at h; cases h) hlk
  subst eT
  refine ⟨_, _, ?_, hrun, hended, _, _, rfl, q, ⟨_, rfl⟩, hW, hsame.mono hK hN⟩
  exact retOut X hx hret hn (Or.inr (Or.inr (Or.inr (Or.inr ⟨rfl, ht, hw⟩)))) (hb hby hd.1) hr
theorem w_retV (X : Stand p l e R s m args below meth c T locs cells slots) (hx : p.tables.exec = Jvm.exec) (hby : c.code = bs) (eT : T.heap = h) (hlk : meth.locks = false) (hret : meth.sig.returnType = none) (hd : In bs pc .return_ 1 nx) (hK : cells ≤ K) (hN : slots ≤ N) (q : Q none h locs) : Wp p e below s K N Q T (mkF m pc Ls []) := by
  obtain ⟨fs, hr, hrun, hended, hW, hsame⟩ := X.leave (v := none) (fun _ => rfl) hlk
  subst eT
  refine ⟨_, _, ?_, hrun, hended, _, _, rfl, q, ⟨_, rfl⟩, hW, hsame.mono hK hN⟩
  exact X.returnOut hx hret (hb hby hd.1) hr
theorem own_ns {Z : State} {h : Heap} {a : Addr} {K : String} (E : Exa Z h a K) : ∃ c : Cell, h[a]? = some c ∧ c.vm.isStatics = false := by
  obtain ⟨c, _, h1, -, -, h4, -⟩ := E; exact ⟨c, h1, h4⟩
theorem own_nsV {Z : State} {h : Heap} {a : Addr} {k : ClassId} {ty : FieldType} {n : Int32} {vs : List Value} {dv : Value} (E : Arv Z h a k ty n vs dv) : ∃ c : Cell, h[a]? = some c ∧ c.vm.isStatics = false := by
  obtain ⟨c, A, -⟩ := E; exact ⟨c, A.1, A.plain⟩
theorem own_sta_keep {Z : State} {h h' : Heap} {C n d : String} {v : Value} {ws : List Addr} (F : Sta Z h C n d v) (K : Keep h h' ws) (q : ∀ x ∈ ws, ∃ c : Cell, h[x]? = some c ∧ c.vm.isStatics = false) : Sta Z h' C n d v := by
  obtain ⟨cf, i, k, f, st, cell, h1, h2, h3, h4, h5, h6, h7⟩ := F
  refine ⟨cf, i, k, f, st, cell, h1, h2, h3, h4, K.2.1 _ _ h5 (fun hm => ?_), h6, h7⟩
  obtain ⟨c, e1, e2⟩ := q st hm
  cases h5.symm.trans e1
  rw [h6] at e2; cases e2
theorem own_ext_keep {h h' : Heap} (E : Ext h h') : Keep h h' [] := (Keep.refl h []).ext E
theorem own_keep_ext {h h' : Heap} (K : Keep h h' []) : Ext h h' := ⟨K.1, fun a c q => K.2.1 a c q nin0⟩
end OwnKit
theorem t_0 : (Jvm.Cond.classLink "com/example/variaform/variaform/model/feature/ComparisonIsOrderPinLaw" (7 : Nat) "com/example/variaform/variaform/model/feature/Constraint$Comparison") ∈ tables_1 := List.mem_of_getElem? (i := 0) rfl
theorem t_1 : (Jvm.Cond.arrayOver (Jvm.ClassFile.FieldType.object "com/example/variaform/variaform/model/feature/Constraint$Comparison")) ∈ tables_1 := List.mem_of_getElem? (i := 1) rfl
theorem t_2 : (Jvm.Cond.fieldLink "com/example/variaform/variaform/model/feature/ComparisonIsOrderPinLaw" (9 : Nat) "com/example/variaform/variaform/model/feature/Constraint$Comparison" "EQUAL" "Lcom/example/variaform/variaform/model/feature/Constraint$Comparison;") ∈ tables_1 := List.mem_of_getElem? (i := 2) rfl
theorem t_3 : (Jvm.Cond.initialized "com/example/variaform/variaform/model/feature/Constraint$Comparison") ∈ tables_1 := List.mem_of_getElem? (i := 3) rfl
theorem t_4 : (Jvm.Cond.laysStatic "com/example/variaform/variaform/model/feature/Constraint$Comparison" "EQUAL" "Lcom/example/variaform/variaform/model/feature/Constraint$Comparison;") ∈ tables_1 := List.mem_of_getElem? (i := 4) rfl
theorem t_6 : (Jvm.Cond.fieldLink "com/example/variaform/variaform/model/feature/ComparisonIsOrderPinLaw" (13 : Nat) "com/example/variaform/variaform/model/feature/Constraint$Comparison" "NOT_EQUAL" "Lcom/example/variaform/variaform/model/feature/Constraint$Comparison;") ∈ tables_1 := List.mem_of_getElem? (i := 6) rfl
theorem t_7 : (Jvm.Cond.laysStatic "com/example/variaform/variaform/model/feature/Constraint$Comparison" "NOT_EQUAL" "Lcom/example/variaform/variaform/model/feature/Constraint$Comparison;") ∈ tables_1 := List.mem_of_getElem? (i := 7) rfl
theorem t_8 : (Jvm.Cond.fieldLink "com/example/variaform/variaform/model/feature/ComparisonIsOrderPinLaw" (16 : Nat) "com/example/variaform/variaform/model/feature/Constraint$Comparison" "LESS" "Lcom/example/variaform/variaform/model/feature/Constraint$Comparison;") ∈ tables_1 := List.mem_of_getElem? (i := 8) rfl
theorem t_9 : (Jvm.Cond.laysStatic "com/example/variaform/variaform/model/feature/Constraint$Comparison" "LESS" "Lcom/example/variaform/variaform/model/feature/Constraint$Comparison;") ∈ tables_1 := List.mem_of_getElem? (i := 9) rfl
theorem t_10 : (Jvm.Cond.fieldLink "com/example/variaform/variaform/model/feature/ComparisonIsOrderPinLaw" (19 : Nat) "com/example/variaform/variaform/model/feature/Constraint$Comparison" "LESS_OR_EQUAL" "Lcom/example/variaform/variaform/model/feature/Constraint$Comparison;") ∈ tables_1 := List.mem_of_getElem? (i := 10) rfl
theorem t_11 : (Jvm.Cond.laysStatic "com/example/variaform/variaform/model/feature/Constraint$Comparison" "LESS_OR_EQUAL" "Lcom/example/variaform/variaform/model/feature/Constraint$Comparison;") ∈ tables_1 := List.mem_of_getElem? (i := 11) rfl
theorem t_12 : (Jvm.Cond.fieldLink "com/example/variaform/variaform/model/feature/ComparisonIsOrderPinLaw" (22 : Nat) "com/example/variaform/variaform/model/feature/Constraint$Comparison" "GREATER" "Lcom/example/variaform/variaform/model/feature/Constraint$Comparison;") ∈ tables_1 := List.mem_of_getElem? (i := 12) rfl
theorem t_13 : (Jvm.Cond.laysStatic "com/example/variaform/variaform/model/feature/Constraint$Comparison" "GREATER" "Lcom/example/variaform/variaform/model/feature/Constraint$Comparison;") ∈ tables_1 := List.mem_of_getElem? (i := 13) rfl
theorem t_14 : (Jvm.Cond.fieldLink "com/example/variaform/variaform/model/feature/ComparisonIsOrderPinLaw" (25 : Nat) "com/example/variaform/variaform/model/feature/Constraint$Comparison" "GREATER_OR_EQUAL" "Lcom/example/variaform/variaform/model/feature/Constraint$Comparison;") ∈ tables_1 := List.mem_of_getElem? (i := 14) rfl
theorem t_15 : (Jvm.Cond.laysStatic "com/example/variaform/variaform/model/feature/Constraint$Comparison" "GREATER_OR_EQUAL" "Lcom/example/variaform/variaform/model/feature/Constraint$Comparison;") ∈ tables_1 := List.mem_of_getElem? (i := 15) rfl
theorem t_16 : (Jvm.Cond.constant "com/example/variaform/variaform/model/feature/ComparisonIsOrderPinLaw" (28 : Nat) (2147483647 : Int32)) ∈ tables_1 := List.mem_of_getElem? (i := 16) rfl
theorem t_17 : (Jvm.Cond.methodLink "com/example/variaform/variaform/model/feature/ComparisonIsOrderPinLaw" (29 : Nat) ({ cls := "com/example/variaform/variaform/model/feature/Constraint$Comparison", name := "isOrder", desc := "()Z" } : Jvm.MethodName)) ∈ tables_1 := List.mem_of_getElem? (i := 17) rfl
theorem t_18 : (Jvm.Cond.declares ({ cls := "com/example/variaform/variaform/model/feature/Constraint$Comparison", name := "isOrder", desc := "()Z" } : Jvm.MethodName)) ∈ tables_1 := List.mem_of_getElem? (i := 18) rfl
theorem t_19 : (Jvm.Cond.instanceMethod ({ cls := "com/example/variaform/variaform/model/feature/Constraint$Comparison", name := "isOrder", desc := "()Z" } : Jvm.MethodName)) ∈ tables_1 := List.mem_of_getElem? (i := 19) rfl
theorem t_20 : (Jvm.Cond.selects "com/example/variaform/variaform/model/feature/Constraint$Comparison" ({ cls := "com/example/variaform/variaform/model/feature/Constraint$Comparison", name := "isOrder", desc := "()Z" } : Jvm.MethodName) ({ cls := "com/example/variaform/variaform/model/feature/Constraint$Comparison", name := "isOrder", desc := "()Z" } : Jvm.MethodName)) ∈ tables_1 := List.mem_of_getElem? (i := 20) rfl
theorem t_21 : (Jvm.Cond.code ({ cls := "com/example/variaform/variaform/model/feature/Constraint$Comparison", name := "isOrder", desc := "()Z" } : Jvm.MethodName) prog_34_method_8_code (1 : Nat) (Option.some Jvm.ClassFile.FieldType.boolean)) ∈ tables_1 := List.mem_of_getElem? (i := 21) rfl
theorem t_22 : (Jvm.Cond.fieldLink "com/example/variaform/variaform/model/feature/Constraint$Comparison" (3 : Nat) "com/example/variaform/variaform/model/feature/Constraint$Comparison" "EQUAL" "Lcom/example/variaform/variaform/model/feature/Constraint$Comparison;") ∈ tables_1 := List.mem_of_getElem? (i := 22) rfl
theorem t_23 : (Jvm.Cond.methodLink "com/example/variaform/variaform/model/feature/ComparisonIsOrderPinLaw" (33 : Nat) ({ cls := "com/example/variaform/variaform/model/feature/Constraint$Comparison", name := "holds", desc := "(I)Z" } : Jvm.MethodName)) ∈ tables_1 := List.mem_of_getElem? (i := 23) rfl
theorem t_24 : (Jvm.Cond.declares ({ cls := "com/example/variaform/variaform/model/feature/Constraint$Comparison", name := "holds", desc := "(I)Z" } : Jvm.MethodName)) ∈ tables_1 := List.mem_of_getElem? (i := 24) rfl
theorem t_25 : (Jvm.Cond.instanceMethod ({ cls := "com/example/variaform/variaform/model/feature/Constraint$Comparison", name := "holds", desc := "(I)Z" } : Jvm.MethodName)) ∈ tables_1 := List.mem_of_getElem? (i := 25) rfl
theorem t_26 : (Jvm.Cond.selects "com/example/variaform/variaform/model/feature/Constraint$Comparison" ({ cls := "com/example/variaform/variaform/model/feature/Constraint$Comparison", name := "holds", desc := "(I)Z" } : Jvm.MethodName) ({ cls := "com/example/variaform/variaform/model/feature/Constraint$Comparison", name := "holds", desc := "(I)Z" } : Jvm.MethodName)) ∈ tables_1 := List.mem_of_getElem? (i := 26) rfl
theorem t_27 : (Jvm.Cond.code ({ cls := "com/example/variaform/variaform/model/feature/Constraint$Comparison", name := "holds", desc := "(I)Z" } : Jvm.MethodName) prog_34_method_6_code (2 : Nat) (Option.some Jvm.ClassFile.FieldType.boolean)) ∈ tables_1 := List.mem_of_getElem? (i := 27) rfl
theorem t_28 : (Jvm.Cond.methodLink "com/example/variaform/variaform/model/feature/Constraint$Comparison" (55 : Nat) ({ cls := "com/example/variaform/variaform/model/feature/Constraint$Comparison", name := "ordinal", desc := "()I" } : Jvm.MethodName)) ∈ tables_1 := List.mem_of_getElem? (i := 28) rfl
theorem t_29 : (Jvm.Cond.sameMethod "com/example/variaform/variaform/model/feature/Constraint$Comparison" "java/lang/Enum" "ordinal" "()I") ∈ tables_1 := List.mem_of_getElem? (i := 29) rfl
theorem t_30 : (Jvm.Cond.declares ({ cls := "java/lang/Enum", name := "ordinal", desc := "()I" } : Jvm.MethodName)) ∈ tables_1 := List.mem_of_getElem? (i := 30) rfl
theorem t_31 : (Jvm.Cond.instanceMethod ({ cls := "java/lang/Enum", name := "ordinal", desc := "()I" } : Jvm.MethodName)) ∈ tables_1 := List.mem_of_getElem? (i := 31) rfl
theorem t_32 : (Jvm.Cond.selects "com/example/variaform/variaform/model/feature/Constraint$Comparison" ({ cls := "com/example/variaform/variaform/model/feature/Constraint$Comparison", name := "ordinal", desc := "()I" } : Jvm.MethodName) ({ cls := "java/lang/Enum", name := "ordinal", desc := "()I" } : Jvm.MethodName)) ∈ tables_1 := List.mem_of_getElem? (i := 32) rfl
theorem t_33 : (Jvm.Cond.initialized "java/lang/Enum") ∈ tables_1 := List.mem_of_getElem? (i := 33) rfl
theorem t_34 : (Jvm.Cond.code ({ cls := "java/lang/Enum", name := "ordinal", desc := "()I" } : Jvm.MethodName) jdk_37_method_2_code (1 : Nat) (Option.some Jvm.ClassFile.FieldType.int)) ∈ tables_1 := List.mem_of_getElem? (i := 34) rfl
theorem t_35 : (Jvm.Cond.fieldLink "java/lang/Enum" (7 : Nat) "java/lang/Enum" "ordinal" "I") ∈ tables_1 := List.mem_of_getElem? (i := 35) rfl
theorem t_37 : (Jvm.Cond.methodLink "com/example/variaform/variaform/model/feature/ComparisonIsOrderPinLaw" (37 : Nat) ({ cls := "com/example/variaform/variaform/model/feature/Constraint$Comparison", name := "swapped", desc := "()Lcom/example/variaform/variaform/model/feature/Constraint$Comparison;" } : Jvm.MethodName)) ∈ tables_1 := List.mem_of_getElem? (i := 37) rfl
theorem t_38 : (Jvm.Cond.declares ({ cls := "com/example/variaform/variaform/model/feature/Constraint$Comparison", name := "swapped", desc := "()Lcom/example/variaform/variaform/model/feature/Constraint$Comparison;" } : Jvm.MethodName)) ∈ tables_1 := List.mem_of_getElem? (i := 38) rfl
theorem t_39 : (Jvm.Cond.instanceMethod ({ cls := "com/example/variaform/variaform/model/feature/Constraint$Comparison", name := "swapped", desc := "()Lcom/example/variaform/variaform/model/feature/Constraint$Comparison;" } : Jvm.MethodName)) ∈ tables_1 := List.mem_of_getElem? (i := 39) rfl
theorem t_40 : (Jvm.Cond.selects "com/example/variaform/variaform/model/feature/Constraint$Comparison" ({ cls := "com/example/variaform/variaform/model/feature/Constraint$Comparison", name := "swapped", desc := "()Lcom/example/variaform/variaform/model/feature/Constraint$Comparison;" } : Jvm.MethodName) ({ cls := "com/example/variaform/variaform/model/feature/Constraint$Comparison", name := "swapped", desc := "()Lcom/example/variaform/variaform/model/feature/Constraint$Comparison;" } : Jvm.MethodName)) ∈ tables_1 := List.mem_of_getElem? (i := 40) rfl
theorem t_41 : (Jvm.Cond.code ({ cls := "com/example/variaform/variaform/model/feature/Constraint$Comparison", name := "swapped", desc := "()Lcom/example/variaform/variaform/model/feature/Constraint$Comparison;" } : Jvm.MethodName) prog_34_method_7_code (1 : Nat) (Option.some (Jvm.ClassFile.FieldType.object "com/example/variaform/variaform/model/feature/Constraint$Comparison"))) ∈ tables_1 := List.mem_of_getElem? (i := 41) rfl
theorem t_42 : (Jvm.Cond.fieldLink "com/example/variaform/variaform/model/feature/Constraint$Comparison" (7 : Nat) "com/example/variaform/variaform/model/feature/Constraint$Comparison" "NOT_EQUAL" "Lcom/example/variaform/variaform/model/feature/Constraint$Comparison;") ∈ tables_1 := List.mem_of_getElem? (i := 42) rfl
theorem t_43 : (Jvm.Cond.fieldLink "com/example/variaform/variaform/model/feature/Constraint$Comparison" (19 : Nat) "com/example/variaform/variaform/model/feature/Constraint$Comparison" "GREATER_OR_EQUAL" "Lcom/example/variaform/variaform/model/feature/Constraint$Comparison;") ∈ tables_1 := List.mem_of_getElem? (i := 43) rfl
theorem t_44 : (Jvm.Cond.fieldLink "com/example/variaform/variaform/model/feature/Constraint$Comparison" (16 : Nat) "com/example/variaform/variaform/model/feature/Constraint$Comparison" "GREATER" "Lcom/example/variaform/variaform/model/feature/Constraint$Comparison;") ∈ tables_1 := List.mem_of_getElem? (i := 44) rfl
theorem t_45 : (Jvm.Cond.fieldLink "com/example/variaform/variaform/model/feature/Constraint$Comparison" (13 : Nat) "com/example/variaform/variaform/model/feature/Constraint$Comparison" "LESS_OR_EQUAL" "Lcom/example/variaform/variaform/model/feature/Constraint$Comparison;") ∈ tables_1 := List.mem_of_getElem? (i := 45) rfl
theorem t_46 : (Jvm.Cond.fieldLink "com/example/variaform/variaform/model/feature/Constraint$Comparison" (10 : Nat) "com/example/variaform/variaform/model/feature/Constraint$Comparison" "LESS" "Lcom/example/variaform/variaform/model/feature/Constraint$Comparison;") ∈ tables_1 := List.mem_of_getElem? (i := 46) rfl
theorem n3_0 : In jdk_37_method_2_code 0 (.aload_n 0) 1 1 := ⟨by decide +kernel, rfl⟩
theorem n3_1 : In jdk_37_method_2_code 1 (.getfield 7) 3 4 := ⟨by decide +kernel, rfl⟩
theorem n3_4 : In jdk_37_method_2_code 4 (.ireturn) 1 5 := ⟨by decide +kernel, rfl⟩
theorem pn_3 : plainFor (⟨"java/lang/Enum", "ordinal", "()I"⟩ : MethodName) = true := plainFor_of_name (by first | (simp [plainName, overriddenIn]; done) | decide +kernel)
theorem n1_0 : In prog_34_method_8_code 0 (.aload_n 0) 1 1 := ⟨by decide +kernel, rfl⟩
theorem n1_1 : In prog_34_method_8_code 1 (.getstatic 3) 3 4 := ⟨by decide +kernel, rfl⟩
theorem n1_4 : Jm prog_34_method_8_code 4 (.if_acmp .eq 14) 14 7 18 := ⟨by decide +kernel, rfl, by decide, by decide⟩
theorem n1_18 : In prog_34_method_8_code 18 (.iconst 0) 1 19 := ⟨by decide +kernel, rfl⟩
theorem n1_19 : In prog_34_method_8_code 19 (.ireturn) 1 20 := ⟨by decide +kernel, rfl⟩
theorem n1_7 : In prog_34_method_8_code 7 (.aload_n 0) 1 8 := ⟨by decide +kernel, rfl⟩
theorem n1_8 : In prog_34_method_8_code 8 (.getstatic 7) 3 11 := ⟨by decide +kernel, rfl⟩
theorem n1_11 : Jm prog_34_method_8_code 11 (.if_acmp .eq 7) 7 14 18 := ⟨by decide +kernel, rfl, by decide, by decide⟩
theorem n1_14 : In prog_34_method_8_code 14 (.iconst 1) 1 15 := ⟨by decide +kernel, rfl⟩
theorem n1_15 : Jm prog_34_method_8_code 15 (.goto 4) 4 18 19 := ⟨by decide +kernel, rfl, by decide, by decide⟩
theorem pn_1 : plainFor (⟨"com/example/variaform/variaform/model/feature/Constraint$Comparison", "isOrder", "()Z"⟩ : MethodName) = true := plainFor_of_name (by first | (simp [plainName, overriddenIn]; done) | decide +kernel)
theorem n2_0 : In prog_34_method_6_code 0 (.aload_n 0) 1 1 := ⟨by decide +kernel, rfl⟩
theorem n2_1 : In prog_34_method_6_code 1 (.invokevirtual 55) 3 4 := ⟨by decide +kernel, rfl⟩
theorem pd_1265 : parseMethodDescriptor "()I" = some ⟨[], some .int⟩ := by decide +kernel
theorem n2_4 : In prog_34_method_6_code 4 (.tableswitch 86 0 4 #[36, 46, 56, 66, 76]) 36 40 := ⟨by decide +kernel, rfl⟩
theorem n2_40 : In prog_34_method_6_code 40 (.iload_n 1) 1 41 := ⟨by decide +kernel, rfl⟩
theorem n2_41 : Jm prog_34_method_6_code 41 (.ifCond .ne 7) 7 44 48 := ⟨by decide +kernel, rfl, by decide, by decide⟩
theorem n2_48 : In prog_34_method_6_code 48 (.iconst 0) 1 49 := ⟨by decide +kernel, rfl⟩
theorem n2_49 : In prog_34_method_6_code 49 (.ireturn) 1 50 := ⟨by decide +kernel, rfl⟩
theorem n2_44 : In prog_34_method_6_code 44 (.iconst 1) 1 45 := ⟨by decide +kernel, rfl⟩
theorem n2_45 : Jm prog_34_method_6_code 45 (.goto 4) 4 48 49 := ⟨by decide +kernel, rfl, by decide, by decide⟩
theorem n2_50 : In prog_34_method_6_code 50 (.iload_n 1) 1 51 := ⟨by decide +kernel, rfl⟩
theorem n2_51 : Jm prog_34_method_6_code 51 (.ifCond .eq 7) 7 54 58 := ⟨by decide +kernel, rfl, by decide, by decide⟩
theorem n2_58 : In prog_34_method_6_code 58 (.iconst 0) 1 59 := ⟨by decide +kernel, rfl⟩
theorem n2_59 : In prog_34_method_6_code 59 (.ireturn) 1 60 := ⟨by decide +kernel, rfl⟩
theorem n2_54 : In prog_34_method_6_code 54 (.iconst 1) 1 55 := ⟨by decide +kernel, rfl⟩
theorem n2_55 : Jm prog_34_method_6_code 55 (.goto 4) 4 58 59 := ⟨by decide +kernel, rfl, by decide, by decide⟩
theorem n2_60 : In prog_34_method_6_code 60 (.iload_n 1) 1 61 := ⟨by decide +kernel, rfl⟩
theorem n2_61 : Jm prog_34_method_6_code 61 (.ifCond .ge 7) 7 64 68 := ⟨by decide +kernel, rfl, by decide, by decide⟩
theorem n2_68 : In prog_34_method_6_code 68 (.iconst 0) 1 69 := ⟨by decide +kernel, rfl⟩
theorem n2_69 : In prog_34_method_6_code 69 (.ireturn) 1 70 := ⟨by decide +kernel, rfl⟩
theorem n2_64 : In prog_34_method_6_code 64 (.iconst 1) 1 65 := ⟨by decide +kernel, rfl⟩
theorem n2_65 : Jm prog_34_method_6_code 65 (.goto 4) 4 68 69 := ⟨by decide +kernel, rfl, by decide, by decide⟩
theorem n2_70 : In prog_34_method_6_code 70 (.iload_n 1) 1 71 := ⟨by decide +kernel, rfl⟩
theorem n2_71 : Jm prog_34_method_6_code 71 (.ifCond .gt 7) 7 74 78 := ⟨by decide +kernel, rfl, by decide, by decide⟩
theorem n2_78 : In prog_34_method_6_code 78 (.iconst 0) 1 79 := ⟨by decide +kernel, rfl⟩
theorem n2_79 : In prog_34_method_6_code 79 (.ireturn) 1 80 := ⟨by decide +kernel, rfl⟩
theorem n2_74 : In prog_34_method_6_code 74 (.iconst 1) 1 75 := ⟨by decide +kernel, rfl⟩
theorem n2_75 : Jm prog_34_method_6_code 75 (.goto 4) 4 78 79 := ⟨by decide +kernel, rfl, by decide, by decide⟩
theorem n2_80 : In prog_34_method_6_code 80 (.iload_n 1) 1 81 := ⟨by decide +kernel, rfl⟩
theorem n2_81 : Jm prog_34_method_6_code 81 (.ifCond .le 7) 7 84 88 := ⟨by decide +kernel, rfl, by decide, by decide⟩
theorem n2_88 : In prog_34_method_6_code 88 (.iconst 0) 1 89 := ⟨by decide +kernel, rfl⟩
theorem n2_89 : In prog_34_method_6_code 89 (.ireturn) 1 90 := ⟨by decide +kernel, rfl⟩
theorem n2_84 : In prog_34_method_6_code 84 (.iconst 1) 1 85 := ⟨by decide +kernel, rfl⟩
theorem n2_85 : Jm prog_34_method_6_code 85 (.goto 4) 4 88 89 := ⟨by decide +kernel, rfl, by decide, by decide⟩
theorem n2_90 : In prog_34_method_6_code 90 (.iload_n 1) 1 91 := ⟨by decide +kernel, rfl⟩
theorem n2_91 : Jm prog_34_method_6_code 91 (.ifCond .lt 7) 7 94 98 := ⟨by decide +kernel, rfl, by decide, by decide⟩
theorem n2_98 : In prog_34_method_6_code 98 (.iconst 0) 1 99 := ⟨by decide +kernel, rfl⟩
theorem n2_99 : In prog_34_method_6_code 99 (.ireturn) 1 100 := ⟨by decide +kernel, rfl⟩
theorem n2_94 : In prog_34_method_6_code 94 (.iconst 1) 1 95 := ⟨by decide +kernel, rfl⟩
theorem n2_95 : Jm prog_34_method_6_code 95 (.goto 4) 4 98 99 := ⟨by decide +kernel, rfl, by decide, by decide⟩
theorem pn_2 : plainFor (⟨"com/example/variaform/variaform/model/feature/Constraint$Comparison", "holds", "(I)Z"⟩ : MethodName) = true := plainFor_of_name (by first | (simp [plainName, overriddenIn]; done) | decide +kernel)
theorem n4_0 : In prog_34_method_7_code 0 (.aload_n 0) 1 1 := ⟨by decide +kernel, rfl⟩
theorem n4_1 : In prog_34_method_7_code 1 (.invokevirtual 55) 3 4 := ⟨by decide +kernel, rfl⟩
theorem n4_4 : In prog_34_method_7_code 4 (.tableswitch 48 2 5 #[32, 36, 40, 44]) 32 36 := ⟨by decide +kernel, rfl⟩
theorem n4_36 : In prog_34_method_7_code 36 (.getstatic 16) 3 39 := ⟨by decide +kernel, rfl⟩
theorem n4_39 : In prog_34_method_7_code 39 (.areturn) 1 40 := ⟨by decide +kernel, rfl⟩
theorem n4_40 : In prog_34_method_7_code 40 (.getstatic 19) 3 43 := ⟨by decide +kernel, rfl⟩
theorem n4_43 : In prog_34_method_7_code 43 (.areturn) 1 44 := ⟨by decide +kernel, rfl⟩
theorem n4_44 : In prog_34_method_7_code 44 (.getstatic 10) 3 47 := ⟨by decide +kernel, rfl⟩
theorem n4_47 : In prog_34_method_7_code 47 (.areturn) 1 48 := ⟨by decide +kernel, rfl⟩
theorem n4_48 : In prog_34_method_7_code 48 (.getstatic 13) 3 51 := ⟨by decide +kernel, rfl⟩
theorem n4_51 : In prog_34_method_7_code 51 (.areturn) 1 52 := ⟨by decide +kernel, rfl⟩
theorem n4_52 : In prog_34_method_7_code 52 (.aload_n 0) 1 53 := ⟨by decide +kernel, rfl⟩
theorem n4_53 : In prog_34_method_7_code 53 (.areturn) 1 54 := ⟨by decide +kernel, rfl⟩
theorem pn_4 : plainFor (⟨"com/example/variaform/variaform/model/feature/Constraint$Comparison", "swapped", "()Lcom/example/variaform/variaform/model/feature/Constraint$Comparison;"⟩ : MethodName) = true := plainFor_of_name (by first | (simp [plainName, overriddenIn]; done) | decide +kernel)
theorem n0_0 : In code 0 (.bipush 6) 2 2 := ⟨at_0, rfl⟩
theorem n0_2 : In code 2 (.anewarray 7) 3 5 := ⟨at_2, rfl⟩
theorem n0_5 : In code 5 (.dup) 1 6 := ⟨at_5, rfl⟩
theorem n0_6 : In code 6 (.iconst 0) 1 7 := ⟨at_6, rfl⟩
theorem n0_7 : In code 7 (.getstatic 9) 3 10 := ⟨at_7, rfl⟩
theorem n0_10 : In code 10 (.aastore) 1 11 := ⟨at_10, rfl⟩
theorem n0_11 : In code 11 (.dup) 1 12 := ⟨at_11, rfl⟩
theorem n0_12 : In code 12 (.iconst 1) 1 13 := ⟨at_12, rfl⟩
theorem n0_13 : In code 13 (.getstatic 13) 3 16 := ⟨at_13, rfl⟩
theorem n0_16 : In code 16 (.aastore) 1 17 := ⟨at_16, rfl⟩
theorem n0_17 : In code 17 (.dup) 1 18 := ⟨at_17, rfl⟩
theorem n0_18 : In code 18 (.iconst 2) 1 19 := ⟨at_18, rfl⟩
theorem n0_19 : In code 19 (.getstatic 16) 3 22 := ⟨at_19, rfl⟩
theorem n0_22 : In code 22 (.aastore) 1 23 := ⟨at_22, rfl⟩
theorem n0_23 : In code 23 (.dup) 1 24 := ⟨at_23, rfl⟩
theorem n0_24 : In code 24 (.iconst 3) 1 25 := ⟨at_24, rfl⟩
theorem n0_25 : In code 25 (.getstatic 19) 3 28 := ⟨at_25, rfl⟩
theorem n0_28 : In code 28 (.aastore) 1 29 := ⟨at_28, rfl⟩
theorem n0_29 : In code 29 (.dup) 1 30 := ⟨at_29, rfl⟩
theorem n0_30 : In code 30 (.iconst 4) 1 31 := ⟨at_30, rfl⟩
theorem n0_31 : In code 31 (.getstatic 22) 3 34 := ⟨at_31, rfl⟩
theorem n0_34 : In code 34 (.aastore) 1 35 := ⟨at_34, rfl⟩
theorem n0_35 : In code 35 (.dup) 1 36 := ⟨at_35, rfl⟩
theorem n0_36 : In code 36 (.iconst 5) 1 37 := ⟨at_36, rfl⟩
theorem n0_37 : In code 37 (.getstatic 25) 3 40 := ⟨at_37, rfl⟩
theorem n0_40 : In code 40 (.aastore) 1 41 := ⟨at_40, rfl⟩
theorem n0_41 : In code 41 (.astore_n 1) 1 42 := ⟨at_41, rfl⟩
theorem n0_42 : In code 42 (.iload_n 0) 1 43 := ⟨at_42, rfl⟩
theorem n0_43 : In code 43 (.ldc 28) 2 45 := ⟨at_43, rfl⟩
theorem n0_45 : In code 45 (.iand) 1 46 := ⟨at_45, rfl⟩
theorem n0_46 : In code 46 (.bipush 6) 2 48 := ⟨at_46, rfl⟩
theorem n0_48 : In code 48 (.irem) 1 49 := ⟨at_48, rfl⟩
theorem n0_49 : In code 49 (.istore_n 2) 1 50 := ⟨at_49, rfl⟩
theorem n0_50 : In code 50 (.aload_n 1) 1 51 := ⟨at_50, rfl⟩
theorem n0_51 : In code 51 (.iload_n 2) 1 52 := ⟨at_51, rfl⟩
theorem n0_52 : In code 52 (.aaload) 1 53 := ⟨at_52, rfl⟩
theorem n0_53 : In code 53 (.astore_n 3) 1 54 := ⟨at_53, rfl⟩
theorem n0_54 : In code 54 (.aload_n 3) 1 55 := ⟨at_54, rfl⟩
theorem n0_55 : In code 55 (.invokevirtual 29) 3 58 := ⟨at_55, rfl⟩
theorem pd_1418 : parseMethodDescriptor "()Z" = some ⟨[], some .boolean⟩ := by decide +kernel
theorem n0_58 : In code 58 (.istore 4) 2 60 := ⟨at_58, rfl⟩
theorem n0_60 : In code 60 (.aload_n 3) 1 61 := ⟨at_60, rfl⟩
theorem n0_61 : In code 61 (.iconst (-1)) 1 62 := ⟨at_61, rfl⟩
theorem n0_62 : In code 62 (.invokevirtual 33) 3 65 := ⟨at_62, rfl⟩
theorem pd_2133 : parseMethodDescriptor "(I)Z" = some ⟨[.int], some .boolean⟩ := by decide +kernel
theorem n0_65 : In code 65 (.aload_n 3) 1 66 := ⟨at_65, rfl⟩
theorem n0_66 : In code 66 (.iconst 1) 1 67 := ⟨at_66, rfl⟩
theorem n0_67 : In code 67 (.invokevirtual 33) 3 70 := ⟨at_67, rfl⟩
theorem n0_70 : Jm code 70 (.if_icmp .eq 7) 7 73 77 := ⟨at_70, rfl, by decide, by decide⟩
theorem n0_77 : In code 77 (.iconst 0) 1 78 := ⟨at_77, rfl⟩
theorem n0_78 : In code 78 (.istore 5) 2 80 := ⟨at_78, rfl⟩
theorem n0_80 : In code 80 (.aload_n 3) 1 81 := ⟨at_80, rfl⟩
theorem n0_81 : In code 81 (.invokevirtual 37) 3 84 := ⟨at_81, rfl⟩
theorem pd_295354 : parseMethodDescriptor "()Lcom/example/variaform/variaform/model/feature/Constraint$Comparison;" = some ⟨[], some (.object "com/example/variaform/variaform/model/feature/Constraint$Comparison")⟩ := by decide +kernel
theorem n0_84 : In code 84 (.aload_n 3) 1 85 := ⟨at_84, rfl⟩
theorem n0_85 : Jm code 85 (.if_acmp .eq 7) 7 88 92 := ⟨at_85, rfl, by decide, by decide⟩
theorem n0_92 : In code 92 (.iconst 0) 1 93 := ⟨at_92, rfl⟩
theorem n0_93 : In code 93 (.istore 6) 2 95 := ⟨at_93, rfl⟩
theorem n0_95 : In code 95 (.iload 4) 2 97 := ⟨at_95, rfl⟩
theorem n0_97 : In code 97 (.iload 5) 2 99 := ⟨at_97, rfl⟩
theorem n0_99 : Jm code 99 (.if_icmp .ne 14) 14 102 113 := ⟨at_99, rfl, by decide, by decide⟩
theorem n0_102 : In code 102 (.iload 4) 2 104 := ⟨at_102, rfl⟩
theorem n0_104 : In code 104 (.iload 6) 2 106 := ⟨at_104, rfl⟩
theorem n0_106 : Jm code 106 (.if_icmp .ne 7) 7 109 113 := ⟨at_106, rfl, by decide, by decide⟩
theorem n0_109 : In code 109 (.iconst 1) 1 110 := ⟨at_109, rfl⟩
theorem n0_110 : Jm code 110 (.goto 4) 4 113 114 := ⟨at_110, rfl, by decide, by decide⟩
theorem n0_114 : In code 114 (.ireturn) 1 115 := ⟨at_114, rfl⟩
theorem n0_88 : In code 88 (.iconst 1) 1 89 := ⟨at_88, rfl⟩
theorem n0_89 : Jm code 89 (.goto 4) 4 92 93 := ⟨at_89, rfl, by decide, by decide⟩
theorem n0_73 : In code 73 (.iconst 1) 1 74 := ⟨at_73, rfl⟩
theorem n0_74 : Jm code 74 (.goto 4) 4 77 78 := ⟨at_74, rfl, by decide, by decide⟩
theorem pn_0 : plainFor (⟨"com/example/variaform/variaform/model/feature/ComparisonIsOrderPinLaw", "law", "(I)Z"⟩ : MethodName) = true := plainFor_of_name (by first | (simp [plainName, overriddenIn]; done) | decide +kernel)
theorem own_eqI {t : Term} {k : Int32} {args : Array Value} {s : State} (h : (Cond.eq t (.int k)).value args s none s [] = some true) : t.eval args s none [] s = some (.int k) := by
  obtain ⟨x, y, h1, h2, h3, -⟩ := cmp_v (Or.inl h)
  cases (Option.some.inj h2 : (Value.int k) = y)
  cases x <;> first | (have := gotT (Cond.eq_ints h1 h2) h; rw [h1, this]; done) | (simp [Kin, Value.isRef] at h3; done)
theorem own_eqL {t : Term} {k : Int64} {args : Array Value} {s : State} (h : (Cond.eq t (.long k)).value args s none s [] = some true) : t.eval args s none [] s = some (.long k) := by
  obtain ⟨x, y, h1, h2, h3, -⟩ := cmp_v (Or.inl h)
  cases (Option.some.inj h2 : (Value.long k) = y)
  cases x <;> first | (have := gotT (eq_L h1 h2) h; rw [h1, this]; done) | (simp [Kin, Value.isRef] at h3; done)
theorem own_eqR {a b : Term} {y : Addr} {args : Array Value} {s : State} (h : (Cond.eq a b).value args s none s [] = some true) (hb : b.eval args s none [] s = some (.ref y)) : a.eval args s none [] s = some (.ref y) := by
  obtain ⟨x, y', h1, h2, h3, h4⟩ := cmp_v (Or.inl h)
  cases h2.symm.trans hb
  have hx : x.isRef = true := h4.2
  have := gotT (eq_R h1 h2 hx rfl) h
  rw [h1, this]
theorem own_nar1 : nar .boolean 1 = 1 := rfl
theorem own_nar0 : nar .boolean 0 = 0 := rfl
def own_el (eq nq ls le gr ge : Addr) (k : Int32) : Addr := if k = 0 then eq else if k = 1 then nq else if k = 2 then ls else if k = 3 then le else if k = 4 then gr else ge
def own_io (eq nq y : Addr) : Int32 := if y = eq then 0 else if y = nq then 0 else 1
def own_ho (o x : Int32) : Int32 := if o = 0 then (if x = 0 then 1 else 0) else if o = 1 then (if x = 0 then 0 else 1) else if o = 2 then (if x < 0 then 1 else 0) else if o = 3 then (if 0 < x then 0 else 1) else if o = 4 then (if 0 < x then 1 else 0) else (if x < 0 then 0 else 1)
def own_sw (ls le gr ge y : Addr) (o : Int32) : Addr := if o = 2 then gr else if o = 3 then ge else if o = 4 then ls else if o = 5 then le else y
theorem own_six (x : Int32) : (x &&& 2147483647) % 6 = 0 ∨ (x &&& 2147483647) % 6 = 1 ∨ (x &&& 2147483647) % 6 = 2 ∨ (x &&& 2147483647) % 6 = 3 ∨ (x &&& 2147483647) % 6 = 4 ∨ (x &&& 2147483647) % 6 = 5 := by
  have h1 := c_mask x 2147483647 31 (by decide) (by decide)
  have h2 := (c_irem (x &&& 2147483647) 6 6 (by decide)).1 (by rw [h1]; omega)
  have e : ∀ k : Int32, (x &&& 2147483647) % 6 = k ↔ ((x &&& 2147483647) % 6).toInt = k.toInt := fun k => Int32.toInt_inj.symm
  rw [e, e, e, e, e, e, h2]
  have k0 : (0 : Int32).toInt = 0 := by decide
  have k1 : (1 : Int32).toInt = 1 := by decide
  have k2 : (2 : Int32).toInt = 2 := by decide
  have k3 : (3 : Int32).toInt = 3 := by decide
  have k4 : (4 : Int32).toInt = 4 := by decide
  have k5 : (5 : Int32).toInt = 5 := by decide
  omega
theorem own_el_exa {Z : State} {h : Heap} {eq nq ls le gr ge : Addr} {K : String} (h0 : Exa Z h eq K) (h1 : Exa Z h nq K) (h2 : Exa Z h ls K) (h3 : Exa Z h le K) (h4 : Exa Z h gr K) (h5 : Exa Z h ge K) (k : Int32) : Exa Z h (own_el eq nq ls le gr ge k) K := by
  unfold own_el; (repeat' split) <;> assumption
theorem own_el_od {Z : State} {h : Heap} {eq nq ls le gr ge : Addr} {K n d : String} (h0 : Fld Z h eq K n d (.int 0)) (h1 : Fld Z h nq K n d (.int 1)) (h2 : Fld Z h ls K n d (.int 2)) (h3 : Fld Z h le K n d (.int 3)) (h4 : Fld Z h gr K n d (.int 4)) (h5 : Fld Z h ge K n d (.int 5)) (x : Int32) : Fld Z h (own_el eq nq ls le gr ge ((x &&& 2147483647) % 6)) K n d (.int ((x &&& 2147483647) % 6)) := by
  rcases own_six x with q | q | q | q | q | q <;> rw [q]
  · exact h0
  · exact h1
  · exact h2
  · exact h3
  · exact h4
  · exact h5
theorem own_in6 (x : Int32) : ¬ (x &&& 2147483647) % 6 < 0 ∧ (x &&& 2147483647) % 6 < 6 := by
  rcases own_six x with q | q | q | q | q | q <;> rw [q] <;> decide
theorem own_at6 (eq nq ls le gr ge : Addr) (x : Int32) : [Value.ref eq, .ref nq, .ref ls, .ref le, .ref gr, .ref ge].getD ((x &&& 2147483647) % 6).toNatClampNeg .null = .ref (own_el eq nq ls le gr ge ((x &&& 2147483647) % 6)) := by
  rcases own_six x with q | q | q | q | q | q <;> rw [q] <;> rfl
def own_diff (eq nq ls le gr ge : Addr) : Prop := nq ≠ eq ∧ ls ≠ eq ∧ le ≠ eq ∧ gr ≠ eq ∧ ge ≠ eq ∧ ls ≠ nq ∧ le ≠ nq ∧ gr ≠ nq ∧ ge ≠ nq ∧ gr ≠ ls ∧ ge ≠ le
theorem own_fin {eq nq ls le gr ge : Addr} (d : own_diff eq nq ls le gr ge) (x : Int32) :
    (own_io eq nq (own_el eq nq ls le gr ge ((x &&& 2147483647) % 6)) = if own_ho ((x &&& 2147483647) % 6) (-1) = own_ho ((x &&& 2147483647) % 6) 1 then 0 else 1) ∧
    (own_io eq nq (own_el eq nq ls le gr ge ((x &&& 2147483647) % 6)) = if own_sw ls le gr ge (own_el eq nq ls le gr ge ((x &&& 2147483647) % 6)) ((x &&& 2147483647) % 6) = own_el eq nq ls le gr ge ((x &&& 2147483647) % 6) then 0 else 1) := by
  obtain ⟨d1, d2, d3, d4, d5, d6, d7, d8, d9, d10, d11⟩ := d
  rcases own_six x with q | q | q | q | q | q <;> rw [q] <;> simp [own_io, own_el, own_ho, own_sw, d1, d2, d3, d4, d5, d6, d7, d8, d9, d10, d11, d10.symm, d11.symm]

set_option maxRecDepth 65536 in
set_option maxHeartbeats 4000000 in
theorem ef_rm0o (m : MethodId) (x0 : Addr) : entryFrame m #[(.ref x0)] 1 = mkF m 0 #[.val (.ref x0)] [] := by first | (simp [entryFrame, mkF, argsToLocals, Value.category]; done) | rfl
set_option maxRecDepth 65536 in
set_option maxHeartbeats 40000000 in
theorem rm0o (l : Launch) (Z : State) (a0 : Array Value) (hw : ∀ d ∈ tables_1, d.before a0 Z = true) (y1 : Addr) (o1 : Int32) (h0 : Heap) (F1 : Fld Z h0 y1 "java/lang/Enum" "ordinal" "I" (.int o1)) : Con l Z (⟨"java/lang/Enum", "ordinal", "()I"⟩ : MethodName) jdk_37_method_2_code 1 (some .int) ({ frames := 0, cells := 0, slots := 0, locals := 0 } : Room) #[(.ref y1)] h0 (fun v h L => v = some (.int o1) ∧ h = h0 ∧ L = []) := by
  refine w_body (Ls := #[.val (.ref y1)]) pn_3 (fun m => ef_rm0o m y1) ?_
  intro p e s m below meth c T0 X0 hx hby hml hown hnm hret hlk hZ e0
  refine w_aloadN X0 hx hby n3_0 rfl rfl ?_
  refine w_getF X0 hx hby hZ hown (host := "") (Or.inl (hw _ t_35)) Via.refl e0 F1 n3_1 fun T1 X1 e1 => ?_
  refine w_retI X1 hx hby e1 hlk hret n3_4 (by decide) (by decide) ?_
  exact ⟨rfl, rfl, rfl⟩
set_option maxRecDepth 65536 in
set_option maxHeartbeats 4000000 in
theorem ef_rm1 (m : MethodId) (x0 : Addr) : entryFrame m #[(.ref x0)] 1 = mkF m 0 #[.val (.ref x0)] [] := by first | (simp [entryFrame, mkF, argsToLocals, Value.category]; done) | rfl
set_option maxRecDepth 65536 in
set_option maxHeartbeats 40000000 in
theorem rm1 (l : Launch) (Z : State) (a0 : Array Value) (hw : ∀ d ∈ tables_1, d.before a0 Z = true) (eq nq ls le gr ge y1 : Addr) (h0 : Heap) (S_EQUAL : Sta Z h0 "com/example/variaform/variaform/model/feature/Constraint$Comparison" "EQUAL" "Lcom/example/variaform/variaform/model/feature/Constraint$Comparison;" (.ref eq)) (S_NOT_EQUAL : Sta Z h0 "com/example/variaform/variaform/model/feature/Constraint$Comparison" "NOT_EQUAL" "Lcom/example/variaform/variaform/model/feature/Constraint$Comparison;" (.ref nq)) (S_LESS : Sta Z h0 "com/example/variaform/variaform/model/feature/Constraint$Comparison" "LESS" "Lcom/example/variaform/variaform/model/feature/Constraint$Comparison;" (.ref ls)) (S_LESS_OR_EQUAL : Sta Z h0 "com/example/variaform/variaform/model/feature/Constraint$Comparison" "LESS_OR_EQUAL" "Lcom/example/variaform/variaform/model/feature/Constraint$Comparison;" (.ref le)) (S_GREATER : Sta Z h0 "com/example/variaform/variaform/model/feature/Constraint$Comparison" "GREATER" "Lcom/example/variaform/variaform/model/feature/Constraint$Comparison;" (.ref gr)) (S_GREATER_OR_EQUAL : Sta Z h0 "com/example/variaform/variaform/model/feature/Constraint$Comparison" "GREATER_OR_EQUAL" "Lcom/example/variaform/variaform/model/feature/Constraint$Comparison;" (.ref ge)) : Con l Z (⟨"com/example/variaform/variaform/model/feature/Constraint$Comparison", "isOrder", "()Z"⟩ : MethodName) prog_34_method_8_code 1 (some .boolean) ({ frames := 0, cells := 0, slots := 0, locals := 0 } : Room) #[(.ref y1)] h0 (fun v h L => v = some (.int (own_io eq nq y1)) ∧ h = h0 ∧ L = []) := by
  refine w_body (Ls := #[.val (.ref y1)]) pn_1 (fun m => ef_rm1 m y1) ?_
  intro p e s m below meth c T0 X0 hx hby hml hown hnm hret hlk hZ e0
  refine w_aloadN X0 hx hby n1_0 rfl rfl ?_
  refine w_getS X0 hx hby hZ hown (host := "") (Or.inl (hw _ t_22)) Via.refl e0 S_EQUAL n1_1 fun T1 X1 e1 => ?_
  refine f_acmp_eq X1 hx hby n1_4 (fun q4 => ?_) (fun q4 => ?_)
  · refine w_iconst X1 hx hby (0 : Int32) n1_18 rfl ?_
    refine w_retN X1 hx hby e1 hlk hret (by simp) n1_19 (by decide) (by decide) ?_
    exact ⟨congrArg (fun q => some (Value.int q)) (by first | (unfold own_io; rw [if_pos q4] <;> rfl) | simp [own_io, own_nar1, own_nar0, q4]), rfl, rfl⟩
  · refine w_aloadN X1 hx hby n1_7 rfl rfl ?_
    refine w_getS X1 hx hby hZ hown (host := "") (Or.inl (hw _ t_42)) Via.refl e1 S_NOT_EQUAL n1_8 fun T2 X2 e2 => ?_
    refine f_acmp_eq X2 hx hby n1_11 (fun q11 => ?_) (fun q11 => ?_)
    · refine w_iconst X2 hx hby (0 : Int32) n1_18 rfl ?_
      refine w_retN X2 hx hby e2 hlk hret (by simp) n1_19 (by decide) (by decide) ?_
      exact ⟨congrArg (fun q => some (Value.int q)) (by first | (unfold own_io; rw [if_neg q4, if_pos q11] <;> rfl) | simp [own_io, own_nar1, own_nar0, q4, q11]), rfl, rfl⟩
    · refine w_iconst X2 hx hby (1 : Int32) n1_14 rfl ?_
      refine w_goto X2 hx hby n1_15 ?_
      refine w_retN X2 hx hby e2 hlk hret (by simp) n1_19 (by decide) (by decide) ?_
      exact ⟨congrArg (fun q => some (Value.int q)) (by first | (unfold own_io; rw [if_neg q4, if_neg q11] <;> rfl) | simp [own_io, own_nar1, own_nar0, q4, q11]), rfl, rfl⟩
set_option maxRecDepth 65536 in
set_option maxHeartbeats 4000000 in
theorem ef_rm2 (m : MethodId) (x0 : Addr) (x1 : Int32) : entryFrame m #[(.ref x0), (.int x1)] 2 = mkF m 0 #[.val (.ref x0), .val (.int x1)] [] := by first | (simp [entryFrame, mkF, argsToLocals, Value.category]; done) | rfl
set_option maxRecDepth 65536 in
set_option maxHeartbeats 40000000 in
theorem rm2 (l : Launch) (Z : State) (a0 : Array Value) (hw : ∀ d ∈ tables_1, d.before a0 Z = true) (y1 : Addr) (x1 o1 : Int32) (h0 : Heap) (F1 : Fld Z h0 y1 "java/lang/Enum" "ordinal" "I" (.int o1)) (E1 : Exa Z h0 y1 "com/example/variaform/variaform/model/feature/Constraint$Comparison") : Con l Z (⟨"com/example/variaform/variaform/model/feature/Constraint$Comparison", "holds", "(I)Z"⟩ : MethodName) prog_34_method_6_code 2 (some .boolean) ({ frames := 1, cells := 0, slots := 0, locals := 12 } : Room) #[(.ref y1), (.int x1)] h0 (fun v h L => v = some (.int (own_ho o1 x1)) ∧ h = h0 ∧ L = []) := by
  refine w_body (Ls := #[.val (.ref y1), .val (.int x1)]) pn_2 (fun m => ef_rm2 m y1 x1) ?_
  intro p e s m below meth c T0 X0 hx hby hml hown hnm hret hlk hZ e0
  refine w_aloadN X0 hx hby n2_0 rfl rfl ?_
  refine w_calledp (call_U X0 hx hby hZ hown (argsL := []) (rest := []) (Wd := 0) (x := (⟨"com/example/variaform/variaform/model/feature/Constraint$Comparison", "ordinal", "()I"⟩ : MethodName)) (a := y1) (hw _ t_28) (hw _ t_29) (hw _ t_30) (by decide) (hw _ t_32) (hw _ t_31) (hw _ t_33) (hw _ t_34) E1 (rm0o l Z a0 hw y1 o1 h0 F1) rfl n2_1 (by rw [hml]; rfl) (lenOf pd_1265 rfl) rfl (by decide) (by decide) (by decide) (by decide) e0) rfl rfl fun T1 X1 e1 => ?_
  by_cases q4_0 : o1 = (0 : Int32)
  · refine w_tswIn X1 hx hby n2_4 (by rw [q4_0]; decide) (off := 36) (by rw [q4_0]; decide) (by decide) (tg := 40) (by decide) ?_
    refine w_iloadN X1 hx hby n2_40 rfl ?_
    refine f_if_ne X1 hx hby n2_41 (fun q41 => ?_) (fun q41 => ?_)
    · refine w_iconst X1 hx hby (0 : Int32) n2_48 rfl ?_
      refine w_retN X1 hx hby e1 hlk hret (by simp) n2_49 (by decide) (by decide) ?_
      exact ⟨congrArg (fun q => some (Value.int q)) (by first | (unfold own_ho; rw [if_pos q4_0, if_neg q41] <;> rfl) | simp [own_ho, own_nar1, own_nar0, q4_0, q41]), rfl, rfl⟩
    · refine w_iconst X1 hx hby (1 : Int32) n2_44 rfl ?_
      refine w_goto X1 hx hby n2_45 ?_
      refine w_retN X1 hx hby e1 hlk hret (by simp) n2_49 (by decide) (by decide) ?_
      exact ⟨congrArg (fun q => some (Value.int q)) (by first | (unfold own_ho; rw [if_pos q4_0, if_pos q41] <;> rfl) | simp [own_ho, own_nar1, own_nar0, q4_0, q41]), rfl, rfl⟩
  by_cases q4_1 : o1 = (1 : Int32)
  · refine w_tswIn X1 hx hby n2_4 (by rw [q4_1]; decide) (off := 46) (by rw [q4_1]; decide) (by decide) (tg := 50) (by decide) ?_
    refine w_iloadN X1 hx hby n2_50 rfl ?_
    refine f_if_eq X1 hx hby n2_51 (fun q51 => ?_) (fun q51 => ?_)
    · refine w_iconst X1 hx hby (0 : Int32) n2_58 rfl ?_
      refine w_retN X1 hx hby e1 hlk hret (by simp) n2_59 (by decide) (by decide) ?_
      exact ⟨congrArg (fun q => some (Value.int q)) (by first | (unfold own_ho; rw [if_neg q4_0, if_pos q4_1, if_pos q51] <;> rfl) | simp [own_ho, own_nar1, own_nar0, q4_0, q4_1, q51]), rfl, rfl⟩
    · refine w_iconst X1 hx hby (1 : Int32) n2_54 rfl ?_
      refine w_goto X1 hx hby n2_55 ?_
      refine w_retN X1 hx hby e1 hlk hret (by simp) n2_59 (by decide) (by decide) ?_
      exact ⟨congrArg (fun q => some (Value.int q)) (by first | (unfold own_ho; rw [if_neg q4_0, if_pos q4_1, if_neg q51] <;> rfl) | simp [own_ho, own_nar1, own_nar0, q4_0, q4_1, q51]), rfl, rfl⟩
  by_cases q4_2 : o1 = (2 : Int32)
  · refine w_tswIn X1 hx hby n2_4 (by rw [q4_2]; decide) (off := 56) (by rw [q4_2]; decide) (by decide) (tg := 60) (by decide) ?_
    refine w_iloadN X1 hx hby n2_60 rfl ?_
    refine f_if_ge X1 hx hby n2_61 (fun q61 => ?_) (fun q61 => ?_)
    · refine w_iconst X1 hx hby (0 : Int32) n2_68 rfl ?_
      refine w_retN X1 hx hby e1 hlk hret (by simp) n2_69 (by decide) (by decide) ?_
      exact ⟨congrArg (fun q => some (Value.int q)) (by first | (unfold own_ho; rw [if_neg q4_0, if_neg q4_1, if_pos q4_2, if_neg q61] <;> rfl) | simp [own_ho, own_nar1, own_nar0, q4_0, q4_1, q4_2, q61]), rfl, rfl⟩
    · refine w_iconst X1 hx hby (1 : Int32) n2_64 rfl ?_
      refine w_goto X1 hx hby n2_65 ?_
      refine w_retN X1 hx hby e1 hlk hret (by simp) n2_69 (by decide) (by decide) ?_
      exact ⟨congrArg (fun q => some (Value.int q)) (by first | (unfold own_ho; rw [if_neg q4_0, if_neg q4_1, if_pos q4_2, if_pos q61] <;> rfl) | simp [own_ho, own_nar1, own_nar0, q4_0, q4_1, q4_2, q61]), rfl, rfl⟩
  by_cases q4_3 : o1 = (3 : Int32)
  · refine w_tswIn X1 hx hby n2_4 (by rw [q4_3]; decide) (off := 66) (by rw [q4_3]; decide) (by decide) (tg := 70) (by decide) ?_
    refine w_iloadN X1 hx hby n2_70 rfl ?_
    refine f_if_gt X1 hx hby n2_71 (fun q71 => ?_) (fun q71 => ?_)
    · refine w_iconst X1 hx hby (0 : Int32) n2_78 rfl ?_
      refine w_retN X1 hx hby e1 hlk hret (by simp) n2_79 (by decide) (by decide) ?_
      exact ⟨congrArg (fun q => some (Value.int q)) (by first | (unfold own_ho; rw [if_neg q4_0, if_neg q4_1, if_neg q4_2, if_pos q4_3, if_pos q71] <;> rfl) | simp [own_ho, own_nar1, own_nar0, q4_0, q4_1, q4_2, q4_3, q71]), rfl, rfl⟩
    · refine w_iconst X1 hx hby (1 : Int32) n2_74 rfl ?_
      refine w_goto X1 hx hby n2_75 ?_
      refine w_retN X1 hx hby e1 hlk hret (by simp) n2_79 (by decide) (by decide) ?_
      exact ⟨congrArg (fun q => some (Value.int q)) (by first | (unfold own_ho; rw [if_neg q4_0, if_neg q4_1, if_neg q4_2, if_pos q4_3, if_neg q71] <;> rfl) | simp [own_ho, own_nar1, own_nar0, q4_0, q4_1, q4_2, q4_3, q71]), rfl, rfl⟩
  by_cases q4_4 : o1 = (4 : Int32)
  · refine w_tswIn X1 hx hby n2_4 (by rw [q4_4]; decide) (off := 76) (by rw [q4_4]; decide) (by decide) (tg := 80) (by decide) ?_
    refine w_iloadN X1 hx hby n2_80 rfl ?_
    refine f_if_le X1 hx hby n2_81 (fun q81 => ?_) (fun q81 => ?_)
    · refine w_iconst X1 hx hby (0 : Int32) n2_88 rfl ?_
      refine w_retN X1 hx hby e1 hlk hret (by simp) n2_89 (by decide) (by decide) ?_
      exact ⟨congrArg (fun q => some (Value.int q)) (by first | (unfold own_ho; rw [if_neg q4_0, if_neg q4_1, if_neg q4_2, if_neg q4_3, if_pos q4_4, if_neg q81] <;> rfl) | simp [own_ho, own_nar1, own_nar0, q4_0, q4_1, q4_2, q4_3, q4_4, q81]), rfl, rfl⟩
    · refine w_iconst X1 hx hby (1 : Int32) n2_84 rfl ?_
      refine w_goto X1 hx hby n2_85 ?_
      refine w_retN X1 hx hby e1 hlk hret (by simp) n2_89 (by decide) (by decide) ?_
      exact ⟨congrArg (fun q => some (Value.int q)) (by first | (unfold own_ho; rw [if_neg q4_0, if_neg q4_1, if_neg q4_2, if_neg q4_3, if_pos q4_4, if_pos q81] <;> rfl) | simp [own_ho, own_nar1, own_nar0, q4_0, q4_1, q4_2, q4_3, q4_4, q81]), rfl, rfl⟩
  refine w_tswOut X1 hx hby n2_4 (by have u0 := own_ne32 (i := 0) q4_0 (by decide); have u1 := own_ne32 (i := 1) q4_1 (by decide); have u2 := own_ne32 (i := 2) q4_2 (by decide); have u3 := own_ne32 (i := 3) q4_3 (by decide); have u4 := own_ne32 (i := 4) q4_4 (by decide); omega) (by decide) (tg := 90) (by decide) ?_
  refine w_iloadN X1 hx hby n2_90 rfl ?_
  refine f_if_lt X1 hx hby n2_91 (fun q91 => ?_) (fun q91 => ?_)
  · refine w_iconst X1 hx hby (0 : Int32) n2_98 rfl ?_
    refine w_retN X1 hx hby e1 hlk hret (by simp) n2_99 (by decide) (by decide) ?_
    exact ⟨congrArg (fun q => some (Value.int q)) (by first | (unfold own_ho; rw [if_neg q4_0, if_neg q4_1, if_neg q4_2, if_neg q4_3, if_neg q4_4, if_pos q91] <;> rfl) | simp [own_ho, own_nar1, own_nar0, q4_0, q4_1, q4_2, q4_3, q4_4, q91]), rfl, rfl⟩
  · refine w_iconst X1 hx hby (1 : Int32) n2_94 rfl ?_
    refine w_goto X1 hx hby n2_95 ?_
    refine w_retN X1 hx hby e1 hlk hret (by simp) n2_99 (by decide) (by decide) ?_
    exact ⟨congrArg (fun q => some (Value.int q)) (by first | (unfold own_ho; rw [if_neg q4_0, if_neg q4_1, if_neg q4_2, if_neg q4_3, if_neg q4_4, if_neg q91] <;> rfl) | simp [own_ho, own_nar1, own_nar0, q4_0, q4_1, q4_2, q4_3, q4_4, q91]), rfl, rfl⟩
set_option maxRecDepth 65536 in
set_option maxHeartbeats 4000000 in
theorem ef_rm3 (m : MethodId) (x0 : Addr) : entryFrame m #[(.ref x0)] 1 = mkF m 0 #[.val (.ref x0)] [] := by first | (simp [entryFrame, mkF, argsToLocals, Value.category]; done) | rfl
set_option maxRecDepth 65536 in
set_option maxHeartbeats 40000000 in
theorem rm3 (l : Launch) (Z : State) (a0 : Array Value) (hw : ∀ d ∈ tables_1, d.before a0 Z = true) (eq nq ls le gr ge y1 : Addr) (o1 : Int32) (h0 : Heap) (S_EQUAL : Sta Z h0 "com/example/variaform/variaform/model/feature/Constraint$Comparison" "EQUAL" "Lcom/example/variaform/variaform/model/feature/Constraint$Comparison;" (.ref eq)) (S_NOT_EQUAL : Sta Z h0 "com/example/variaform/variaform/model/feature/Constraint$Comparison" "NOT_EQUAL" "Lcom/example/variaform/variaform/model/feature/Constraint$Comparison;" (.ref nq)) (S_LESS : Sta Z h0 "com/example/variaform/variaform/model/feature/Constraint$Comparison" "LESS" "Lcom/example/variaform/variaform/model/feature/Constraint$Comparison;" (.ref ls)) (S_LESS_OR_EQUAL : Sta Z h0 "com/example/variaform/variaform/model/feature/Constraint$Comparison" "LESS_OR_EQUAL" "Lcom/example/variaform/variaform/model/feature/Constraint$Comparison;" (.ref le)) (S_GREATER : Sta Z h0 "com/example/variaform/variaform/model/feature/Constraint$Comparison" "GREATER" "Lcom/example/variaform/variaform/model/feature/Constraint$Comparison;" (.ref gr)) (S_GREATER_OR_EQUAL : Sta Z h0 "com/example/variaform/variaform/model/feature/Constraint$Comparison" "GREATER_OR_EQUAL" "Lcom/example/variaform/variaform/model/feature/Constraint$Comparison;" (.ref ge)) (F1 : Fld Z h0 y1 "java/lang/Enum" "ordinal" "I" (.int o1)) (E1 : Exa Z h0 y1 "com/example/variaform/variaform/model/feature/Constraint$Comparison") : Con l Z (⟨"com/example/variaform/variaform/model/feature/Constraint$Comparison", "swapped", "()Lcom/example/variaform/variaform/model/feature/Constraint$Comparison;"⟩ : MethodName) prog_34_method_7_code 1 (some (.object "com/example/variaform/variaform/model/feature/Constraint$Comparison")) ({ frames := 1, cells := 0, slots := 0, locals := 12 } : Room) #[(.ref y1)] h0 (fun v h L => v = some (.ref (own_sw ls le gr ge y1 o1)) ∧ h = h0 ∧ L = []) := by
  refine w_body (Ls := #[.val (.ref y1)]) pn_4 (fun m => ef_rm3 m y1) ?_
  intro p e s m below meth c T0 X0 hx hby hml hown hnm hret hlk hZ e0
  refine w_aloadN X0 hx hby n4_0 rfl rfl ?_
  refine w_calledp (call_U X0 hx hby hZ hown (argsL := []) (rest := []) (Wd := 0) (x := (⟨"com/example/variaform/variaform/model/feature/Constraint$Comparison", "ordinal", "()I"⟩ : MethodName)) (a := y1) (hw _ t_28) (hw _ t_29) (hw _ t_30) (by decide) (hw _ t_32) (hw _ t_31) (hw _ t_33) (hw _ t_34) E1 (rm0o l Z a0 hw y1 o1 h0 F1) rfl n4_1 (by rw [hml]; rfl) (lenOf pd_1265 rfl) rfl (by decide) (by decide) (by decide) (by decide) e0) rfl rfl fun T1 X1 e1 => ?_
  by_cases q4_2 : o1 = (2 : Int32)
  · refine w_tswIn X1 hx hby n4_4 (by rw [q4_2]; decide) (off := 32) (by rw [q4_2]; decide) (by decide) (tg := 36) (by decide) ?_
    refine w_getS X1 hx hby hZ hown (host := "") (Or.inl (hw _ t_44)) Via.refl e1 S_GREATER n4_36 fun T2 X2 e2 => ?_
    refine w_retA X2 hx hby e2 hlk hret rfl rfl rfl n4_39 (by decide) (by decide) ?_
    exact ⟨congrArg (fun q => some (Value.ref q)) (by first | (unfold own_sw; rw [if_pos q4_2] <;> rfl) | simp [own_sw, own_nar1, own_nar0, q4_2]), rfl, rfl⟩
  by_cases q4_3 : o1 = (3 : Int32)
  · refine w_tswIn X1 hx hby n4_4 (by rw [q4_3]; decide) (off := 36) (by rw [q4_3]; decide) (by decide) (tg := 40) (by decide) ?_
    refine w_getS X1 hx hby hZ hown (host := "") (Or.inl (hw _ t_43)) Via.refl e1 S_GREATER_OR_EQUAL n4_40 fun T3 X3 e3 => ?_
    refine w_retA X3 hx hby e3 hlk hret rfl rfl rfl n4_43 (by decide) (by decide) ?_
    exact ⟨congrArg (fun q => some (Value.ref q)) (by first | (unfold own_sw; rw [if_neg q4_2, if_pos q4_3] <;> rfl) | simp [own_sw, own_nar1, own_nar0, q4_2, q4_3]), rfl, rfl⟩
  by_cases q4_4 : o1 = (4 : Int32)
  · refine w_tswIn X1 hx hby n4_4 (by rw [q4_4]; decide) (off := 40) (by rw [q4_4]; decide) (by decide) (tg := 44) (by decide) ?_
    refine w_getS X1 hx hby hZ hown (host := "") (Or.inl (hw _ t_46)) Via.refl e1 S_LESS n4_44 fun T4 X4 e4 => ?_
    refine w_retA X4 hx hby e4 hlk hret rfl rfl rfl n4_47 (by decide) (by decide) ?_
    exact ⟨congrArg (fun q => some (Value.ref q)) (by first | (unfold own_sw; rw [if_neg q4_2, if_neg q4_3, if_pos q4_4] <;> rfl) | simp [own_sw, own_nar1, own_nar0, q4_2, q4_3, q4_4]), rfl, rfl⟩
  by_cases q4_5 : o1 = (5 : Int32)
  · refine w_tswIn X1 hx hby n4_4 (by rw [q4_5]; decide) (off := 44) (by rw [q4_5]; decide) (by decide) (tg := 48) (by decide) ?_
    refine w_getS X1 hx hby hZ hown (host := "") (Or.inl (hw _ t_45)) Via.refl e1 S_LESS_OR_EQUAL n4_48 fun T5 X5 e5 => ?_
    refine w_retA X5 hx hby e5 hlk hret rfl rfl rfl n4_51 (by decide) (by decide) ?_
    exact ⟨congrArg (fun q => some (Value.ref q)) (by first | (unfold own_sw; rw [if_neg q4_2, if_neg q4_3, if_neg q4_4, if_pos q4_5] <;> rfl) | simp [own_sw, own_nar1, own_nar0, q4_2, q4_3, q4_4, q4_5]), rfl, rfl⟩
  refine w_tswOut X1 hx hby n4_4 (by have u0 := own_ne32 (i := 2) q4_2 (by decide); have u1 := own_ne32 (i := 3) q4_3 (by decide); have u2 := own_ne32 (i := 4) q4_4 (by decide); have u3 := own_ne32 (i := 5) q4_5 (by decide); omega) (by decide) (tg := 52) (by decide) ?_
  refine w_aloadN X1 hx hby n4_52 rfl rfl ?_
  refine w_retA X1 hx hby e1 hlk hret rfl rfl rfl n4_53 (by decide) (by decide) ?_
  exact ⟨congrArg (fun q => some (Value.ref q)) (by first | (unfold own_sw; rw [if_neg q4_2, if_neg q4_3, if_neg q4_4, if_neg q4_5] <;> rfl) | simp [own_sw, own_nar1, own_nar0, q4_2, q4_3, q4_4, q4_5]), rfl, rfl⟩
set_option maxRecDepth 65536 in
set_option maxHeartbeats 4000000 in
theorem ef_law0 (m : MethodId) (x0 : Int32) : entryFrame m #[(.int x0)] maxLocals = mkF m 0 #[.val (.int x0), .unset, .unset, .unset, .unset, .unset, .unset] [] := by first | (simp [entryFrame, mkF, argsToLocals, Value.category, maxLocals]; done) | rfl
set_option maxRecDepth 65536 in
set_option maxHeartbeats 40000000 in
theorem law0 (l : Launch) (Z : State) (a0 : Array Value) (hw : ∀ d ∈ tables_1, d.before a0 Z = true) (eq nq ls le gr ge : Addr) (x1 : Int32) (h0 : Heap) (S_EQUAL : Sta Z h0 "com/example/variaform/variaform/model/feature/Constraint$Comparison" "EQUAL" "Lcom/example/variaform/variaform/model/feature/Constraint$Comparison;" (.ref eq)) (S_NOT_EQUAL : Sta Z h0 "com/example/variaform/variaform/model/feature/Constraint$Comparison" "NOT_EQUAL" "Lcom/example/variaform/variaform/model/feature/Constraint$Comparison;" (.ref nq)) (S_LESS : Sta Z h0 "com/example/variaform/variaform/model/feature/Constraint$Comparison" "LESS" "Lcom/example/variaform/variaform/model/feature/Constraint$Comparison;" (.ref ls)) (S_LESS_OR_EQUAL : Sta Z h0 "com/example/variaform/variaform/model/feature/Constraint$Comparison" "LESS_OR_EQUAL" "Lcom/example/variaform/variaform/model/feature/Constraint$Comparison;" (.ref le)) (S_GREATER : Sta Z h0 "com/example/variaform/variaform/model/feature/Constraint$Comparison" "GREATER" "Lcom/example/variaform/variaform/model/feature/Constraint$Comparison;" (.ref gr)) (S_GREATER_OR_EQUAL : Sta Z h0 "com/example/variaform/variaform/model/feature/Constraint$Comparison" "GREATER_OR_EQUAL" "Lcom/example/variaform/variaform/model/feature/Constraint$Comparison;" (.ref ge)) (E_EQUAL : Exa Z h0 eq "com/example/variaform/variaform/model/feature/Constraint$Comparison") (E_NOT_EQUAL : Exa Z h0 nq "com/example/variaform/variaform/model/feature/Constraint$Comparison") (E_LESS : Exa Z h0 ls "com/example/variaform/variaform/model/feature/Constraint$Comparison") (E_LESS_OR_EQUAL : Exa Z h0 le "com/example/variaform/variaform/model/feature/Constraint$Comparison") (E_GREATER : Exa Z h0 gr "com/example/variaform/variaform/model/feature/Constraint$Comparison") (E_GREATER_OR_EQUAL : Exa Z h0 ge "com/example/variaform/variaform/model/feature/Constraint$Comparison") (O_EQUAL : Fld Z h0 eq "java/lang/Enum" "ordinal" "I" (.int (0 : Int32))) (O_NOT_EQUAL : Fld Z h0 nq "java/lang/Enum" "ordinal" "I" (.int (1 : Int32))) (O_LESS : Fld Z h0 ls "java/lang/Enum" "ordinal" "I" (.int (2 : Int32))) (O_LESS_OR_EQUAL : Fld Z h0 le "java/lang/Enum" "ordinal" "I" (.int (3 : Int32))) (O_GREATER : Fld Z h0 gr "java/lang/Enum" "ordinal" "I" (.int (4 : Int32))) (O_GREATER_OR_EQUAL : Fld Z h0 ge "java/lang/Enum" "ordinal" "I" (.int (5 : Int32))) (D : own_diff eq nq ls le gr ge) : Con l Z x code maxLocals ret room_1 #[(.int x1)] h0 (fun v h L => v = some (.int 1) ∧ Fr h0.size L) := by
  refine w_body (Ls := #[.val (.int x1), .unset, .unset, .unset, .unset, .unset, .unset]) pn_0 (fun m => ef_law0 m x1) ?_
  intro p e s m below meth c T0 X0 hx hby hml hown hnm hret hlk hZ e0
  have hml : c.maxLocals = 7 := hml
  refine w_bipush X0 hx hby (6 : Int32) n0_0 rfl ?_
  refine w_newR X0 hx hby hZ hown (hw _ t_0) (hw _ t_1) e0 n0_2 (by decide) 6 (by decide) (by decide) (by decide) (by decide) fun T1 h1 b1 k1 g1 X1 e1 E1 A1 O1 => ?_
  have ne_eq_b1 : eq ≠ b1 := Nat.ne_of_lt (Nat.lt_of_lt_of_eq E_EQUAL.lt g1.symm)
  have ne_nq_b1 : nq ≠ b1 := Nat.ne_of_lt (Nat.lt_of_lt_of_eq E_NOT_EQUAL.lt g1.symm)
  have ne_ls_b1 : ls ≠ b1 := Nat.ne_of_lt (Nat.lt_of_lt_of_eq E_LESS.lt g1.symm)
  have ne_le_b1 : le ≠ b1 := Nat.ne_of_lt (Nat.lt_of_lt_of_eq E_LESS_OR_EQUAL.lt g1.symm)
  have ne_gr_b1 : gr ≠ b1 := Nat.ne_of_lt (Nat.lt_of_lt_of_eq E_GREATER.lt g1.symm)
  have ne_ge_b1 : ge ≠ b1 := Nat.ne_of_lt (Nat.lt_of_lt_of_eq E_GREATER_OR_EQUAL.lt g1.symm)
  have old_b1 : h0.size ≤ b1 := Nat.le_trans (Nat.le_refl h0.size) (Nat.le_of_eq g1.symm)
  have z2 : h0.size ≤ h1.size := Nat.le_trans (Nat.le_refl h0.size) E1.1
  have V1 : Arv Z h1 b1 k1 (.object "com/example/variaform/variaform/model/feature/Constraint$Comparison") (6 : Int32) [.null, .null, .null, .null, .null, .null] .null := (Arv.new A1 (by decide)).pad (pad_rep [] .null 6)
  refine w_dup X1 hx hby n0_5 rfl ?_
  refine w_iconst X1 hx hby (0 : Int32) n0_6 rfl ?_
  have f3 := (S_EQUAL.ext E1)
  refine w_getS X1 hx hby hZ hown (host := "") (Or.inl (hw _ t_2)) Via.refl e1 f3 n0_7 fun T4 X4 e4 => ?_
  obtain ⟨cl5, Ar5, qk5, Sz5, Nn5, Ha5, Gf5⟩ := id V1
  have f6 := (E_EQUAL.ext E1)
  refine w_stR X4 hx hby hZ e4 Ar5 (j := (0 : Int32)) (inb_of Sz5 ⟨by decide, by decide⟩) rfl (Sto.ofV Ar5 qk5 O1 (Ins.self f6)) n0_10 fun T5 h5 X5 e5 W5 => ?_
  have V5 : Arv Z h5 b1 k1 (.object "com/example/variaform/variaform/model/feature/Constraint$Comparison") (6 : Int32) [(.ref eq), .null, .null, .null, .null, .null] .null := Arv.set Ar5 qk5 Sz5 Nn5 Ha5 Gf5 rfl W5 0 rfl (Nat.le_of_ble_eq_true rfl)
  have N5 := Fr.snoc X5 (Fr.nil h0.size) old_b1
  have z7 : h0.size ≤ h5.size := Nat.le_trans z2 (Keep.of_wr W5).1
  refine w_dup X5 hx hby n0_11 rfl ?_
  refine w_iconst X5 hx hby (1 : Int32) n0_12 rfl ?_
  have f8 := ((S_NOT_EQUAL.ext E1).wr W5)
  refine w_getS X5 hx hby hZ hown (host := "") (Or.inl (hw _ t_6)) Via.refl e5 f8 n0_13 fun T9 X9 e9 => ?_
  obtain ⟨cl10, Ar10, qk10, Sz10, Nn10, Ha10, Gf10⟩ := id V5
  have f11 := ((E_NOT_EQUAL.ext E1).wr W5)
  refine w_stR X9 hx hby hZ e9 Ar10 (j := (1 : Int32)) (inb_of Sz10 ⟨by decide, by decide⟩) rfl (Sto.ofV Ar10 qk10 O1 (Ins.self f11)) n0_16 fun T10 h10 X10 e10 W10 => ?_
  have V10 : Arv Z h10 b1 k1 (.object "com/example/variaform/variaform/model/feature/Constraint$Comparison") (6 : Int32) [(.ref eq), (.ref nq), .null, .null, .null, .null] .null := Arv.set Ar10 qk10 Sz10 Nn10 Ha10 Gf10 rfl W10 1 rfl (Nat.le_of_ble_eq_true rfl)
  have N10 := Fr.snoc X10 N5 old_b1
  have z12 : h0.size ≤ h10.size := Nat.le_trans z7 (Keep.of_wr W10).1
  refine w_dup X10 hx hby n0_17 rfl ?_
  refine w_iconst X10 hx hby (2 : Int32) n0_18 rfl ?_
  have f13 := (((S_LESS.ext E1).wr W5).wr W10)
  refine w_getS X10 hx hby hZ hown (host := "") (Or.inl (hw _ t_8)) Via.refl e10 f13 n0_19 fun T14 X14 e14 => ?_
  obtain ⟨cl15, Ar15, qk15, Sz15, Nn15, Ha15, Gf15⟩ := id V10
  have f16 := (((E_LESS.ext E1).wr W5).wr W10)
  refine w_stR X14 hx hby hZ e14 Ar15 (j := (2 : Int32)) (inb_of Sz15 ⟨by decide, by decide⟩) rfl (Sto.ofV Ar15 qk15 O1 (Ins.self f16)) n0_22 fun T15 h15 X15 e15 W15 => ?_
  have V15 : Arv Z h15 b1 k1 (.object "com/example/variaform/variaform/model/feature/Constraint$Comparison") (6 : Int32) [(.ref eq), (.ref nq), (.ref ls), .null, .null, .null] .null := Arv.set Ar15 qk15 Sz15 Nn15 Ha15 Gf15 rfl W15 2 rfl (Nat.le_of_ble_eq_true rfl)
  have N15 := Fr.snoc X15 N10 old_b1
  have z17 : h0.size ≤ h15.size := Nat.le_trans z12 (Keep.of_wr W15).1
  refine w_dup X15 hx hby n0_23 rfl ?_
  refine w_iconst X15 hx hby (3 : Int32) n0_24 rfl ?_
  have f18 := ((((S_LESS_OR_EQUAL.ext E1).wr W5).wr W10).wr W15)
  refine w_getS X15 hx hby hZ hown (host := "") (Or.inl (hw _ t_10)) Via.refl e15 f18 n0_25 fun T19 X19 e19 => ?_
  obtain ⟨cl20, Ar20, qk20, Sz20, Nn20, Ha20, Gf20⟩ := id V15
  have f21 := ((((E_LESS_OR_EQUAL.ext E1).wr W5).wr W10).wr W15)
  refine w_stR X19 hx hby hZ e19 Ar20 (j := (3 : Int32)) (inb_of Sz20 ⟨by decide, by decide⟩) rfl (Sto.ofV Ar20 qk20 O1 (Ins.self f21)) n0_28 fun T20 h20 X20 e20 W20 => ?_
  have V20 : Arv Z h20 b1 k1 (.object "com/example/variaform/variaform/model/feature/Constraint$Comparison") (6 : Int32) [(.ref eq), (.ref nq), (.ref ls), (.ref le), .null, .null] .null := Arv.set Ar20 qk20 Sz20 Nn20 Ha20 Gf20 rfl W20 3 rfl (Nat.le_of_ble_eq_true rfl)
  have N20 := Fr.snoc X20 N15 old_b1
  have z22 : h0.size ≤ h20.size := Nat.le_trans z17 (Keep.of_wr W20).1
  refine w_dup X20 hx hby n0_29 rfl ?_
  refine w_iconst X20 hx hby (4 : Int32) n0_30 rfl ?_
  have f23 := (((((S_GREATER.ext E1).wr W5).wr W10).wr W15).wr W20)
  refine w_getS X20 hx hby hZ hown (host := "") (Or.inl (hw _ t_12)) Via.refl e20 f23 n0_31 fun T24 X24 e24 => ?_
  obtain ⟨cl25, Ar25, qk25, Sz25, Nn25, Ha25, Gf25⟩ := id V20
  have f26 := (((((E_GREATER.ext E1).wr W5).wr W10).wr W15).wr W20)
  refine w_stR X24 hx hby hZ e24 Ar25 (j := (4 : Int32)) (inb_of Sz25 ⟨by decide, by decide⟩) rfl (Sto.ofV Ar25 qk25 O1 (Ins.self f26)) n0_34 fun T25 h25 X25 e25 W25 => ?_
  have V25 : Arv Z h25 b1 k1 (.object "com/example/variaform/variaform/model/feature/Constraint$Comparison") (6 : Int32) [(.ref eq), (.ref nq), (.ref ls), (.ref le), (.ref gr), .null] .null := Arv.set Ar25 qk25 Sz25 Nn25 Ha25 Gf25 rfl W25 4 rfl (Nat.le_of_ble_eq_true rfl)
  have N25 := Fr.snoc X25 N20 old_b1
  have z27 : h0.size ≤ h25.size := Nat.le_trans z22 (Keep.of_wr W25).1
  refine w_dup X25 hx hby n0_35 rfl ?_
  refine w_iconst X25 hx hby (5 : Int32) n0_36 rfl ?_
  have f28 := ((((((S_GREATER_OR_EQUAL.ext E1).wr W5).wr W10).wr W15).wr W20).wr W25)
  refine w_getS X25 hx hby hZ hown (host := "") (Or.inl (hw _ t_14)) Via.refl e25 f28 n0_37 fun T29 X29 e29 => ?_
  obtain ⟨cl30, Ar30, qk30, Sz30, Nn30, Ha30, Gf30⟩ := id V25
  have f31 := ((((((E_GREATER_OR_EQUAL.ext E1).wr W5).wr W10).wr W15).wr W20).wr W25)
  refine w_stR X29 hx hby hZ e29 Ar30 (j := (5 : Int32)) (inb_of Sz30 ⟨by decide, by decide⟩) rfl (Sto.ofV Ar30 qk30 O1 (Ins.self f31)) n0_40 fun T30 h30 X30 e30 W30 => ?_
  have V30 : Arv Z h30 b1 k1 (.object "com/example/variaform/variaform/model/feature/Constraint$Comparison") (6 : Int32) [(.ref eq), (.ref nq), (.ref ls), (.ref le), (.ref gr), (.ref ge)] .null := Arv.set Ar30 qk30 Sz30 Nn30 Ha30 Gf30 rfl W30 5 rfl (Nat.le_of_ble_eq_true rfl)
  have N30 := Fr.snoc X30 N25 old_b1
  have z32 : h0.size ≤ h30.size := Nat.le_trans z27 (Keep.of_wr W30).1
  refine w_astoreN X30 hx hby #[.val (.int x1), .val (.ref b1), .unset, .unset, .unset, .unset, .unset] n0_41 rfl rfl ?_
  refine w_iloadN X30 hx hby n0_42 rfl ?_
  refine w_ldcI X30 hx hby hZ hown (hw _ t_16) n0_43 ?_
  refine w_iand X30 hx hby n0_45 ?_
  refine w_bipush X30 hx hby (6 : Int32) n0_46 rfl ?_
  refine w_irem X30 hx hby n0_48 (by decide) ?_
  refine w_istoreN X30 hx hby #[.val (.int x1), .val (.ref b1), .val (.int ((x1 &&& (2147483647 : Int32)) % (6 : Int32))), .unset, .unset, .unset, .unset] n0_49 rfl ?_
  refine w_aloadN X30 hx hby n0_50 rfl rfl ?_
  refine w_iloadN X30 hx hby n0_51 rfl ?_
  obtain ⟨cl33, Ar33, qk33, Sz33, Nn33, Ha33, Gf33⟩ := id V30
  have ib33 := inb_of Sz33 (own_in6 x1)
  refine w_aaload X30 hx hby hZ e30 Ar33 rfl ib33 (Ha33.at ib33 (own_at6 eq nq ls le gr ge x1)) n0_52 ?_
  refine w_astoreN X30 hx hby #[.val (.int x1), .val (.ref b1), .val (.int ((x1 &&& (2147483647 : Int32)) % (6 : Int32))), .val (.ref (own_el eq nq ls le gr ge ((x1 &&& (2147483647 : Int32)) % (6 : Int32)))), .unset, .unset, .unset] n0_53 rfl rfl ?_
  refine w_aloadN X30 hx hby n0_54 rfl rfl ?_
  have f34 := ((((((f3.wr W5).wr W10).wr W15).wr W20).wr W25).wr W30)
  have f35 := (((((f8.wr W10).wr W15).wr W20).wr W25).wr W30)
  have f36 := ((((f13.wr W15).wr W20).wr W25).wr W30)
  have f37 := (((f18.wr W20).wr W25).wr W30)
  have f38 := ((f23.wr W25).wr W30)
  have f39 := (f28.wr W30)
  have f40 := ((((((f6.wr W5).wr W10).wr W15).wr W20).wr W25).wr W30)
  have f41 := (((((f11.wr W10).wr W15).wr W20).wr W25).wr W30)
  have f42 := ((((f16.wr W15).wr W20).wr W25).wr W30)
  have f43 := (((f21.wr W20).wr W25).wr W30)
  have f44 := ((f26.wr W25).wr W30)
  have f45 := (f31.wr W30)
  have f46 := (((((((O_EQUAL.ext E1).other W5 (Or.inl ne_eq_b1)).other W10 (Or.inl ne_eq_b1)).other W15 (Or.inl ne_eq_b1)).other W20 (Or.inl ne_eq_b1)).other W25 (Or.inl ne_eq_b1)).other W30 (Or.inl ne_eq_b1))
  have f47 := (((((((O_NOT_EQUAL.ext E1).other W5 (Or.inl ne_nq_b1)).other W10 (Or.inl ne_nq_b1)).other W15 (Or.inl ne_nq_b1)).other W20 (Or.inl ne_nq_b1)).other W25 (Or.inl ne_nq_b1)).other W30 (Or.inl ne_nq_b1))
  have f48 := (((((((O_LESS.ext E1).other W5 (Or.inl ne_ls_b1)).other W10 (Or.inl ne_ls_b1)).other W15 (Or.inl ne_ls_b1)).other W20 (Or.inl ne_ls_b1)).other W25 (Or.inl ne_ls_b1)).other W30 (Or.inl ne_ls_b1))
  have f49 := (((((((O_LESS_OR_EQUAL.ext E1).other W5 (Or.inl ne_le_b1)).other W10 (Or.inl ne_le_b1)).other W15 (Or.inl ne_le_b1)).other W20 (Or.inl ne_le_b1)).other W25 (Or.inl ne_le_b1)).other W30 (Or.inl ne_le_b1))
  have f50 := (((((((O_GREATER.ext E1).other W5 (Or.inl ne_gr_b1)).other W10 (Or.inl ne_gr_b1)).other W15 (Or.inl ne_gr_b1)).other W20 (Or.inl ne_gr_b1)).other W25 (Or.inl ne_gr_b1)).other W30 (Or.inl ne_gr_b1))
  have f51 := (((((((O_GREATER_OR_EQUAL.ext E1).other W5 (Or.inl ne_ge_b1)).other W10 (Or.inl ne_ge_b1)).other W15 (Or.inl ne_ge_b1)).other W20 (Or.inl ne_ge_b1)).other W25 (Or.inl ne_ge_b1)).other W30 (Or.inl ne_ge_b1))
  refine w_calledp (call_V X30 hx hby hZ hown (argsL := []) (rest := []) (Wd := 0) (a := (own_el eq nq ls le gr ge ((x1 &&& (2147483647 : Int32)) % (6 : Int32)))) (hw _ t_17) (hw _ t_18) (hw _ t_20) (hw _ t_19) (hw _ t_3) (hw _ t_21) (by decide) (own_el_exa f40 f41 f42 f43 f44 f45 _) (rm1 l Z a0 hw eq nq ls le gr ge (own_el eq nq ls le gr ge ((x1 &&& (2147483647 : Int32)) % (6 : Int32))) h30 f34 f35 f36 f37 f38 f39) rfl n0_55 (by rw [hml]; rfl) (lenOf pd_1418 rfl) rfl (by decide) (by decide) (by decide) (by decide) e30) rfl rfl fun T52 X52 e52 => ?_
  refine w_istore X52 hx hby #[.val (.int x1), .val (.ref b1), .val (.int ((x1 &&& (2147483647 : Int32)) % (6 : Int32))), .val (.ref (own_el eq nq ls le gr ge ((x1 &&& (2147483647 : Int32)) % (6 : Int32)))), .val (.int (own_io eq nq (own_el eq nq ls le gr ge ((x1 &&& (2147483647 : Int32)) % (6 : Int32))))), .unset, .unset] n0_58 rfl ?_
  refine w_aloadN X52 hx hby n0_60 rfl rfl ?_
  refine w_iconst X52 hx hby (-1 : Int32) n0_61 rfl ?_
  refine w_calledp (call_V X52 hx hby hZ hown (argsL := [(.int (-1 : Int32))]) (rest := []) (Wd := 0) (a := (own_el eq nq ls le gr ge ((x1 &&& (2147483647 : Int32)) % (6 : Int32)))) (hw _ t_23) (hw _ t_24) (hw _ t_26) (hw _ t_25) (hw _ t_3) (hw _ t_27) (by decide) (own_el_exa f40 f41 f42 f43 f44 f45 _) (rm2 l Z a0 hw (own_el eq nq ls le gr ge ((x1 &&& (2147483647 : Int32)) % (6 : Int32))) (-1 : Int32) ((x1 &&& (2147483647 : Int32)) % (6 : Int32)) h30 (own_el_od f46 f47 f48 f49 f50 f51 _) (own_el_exa f40 f41 f42 f43 f44 f45 _)) rfl n0_62 (by rw [hml]; rfl) (lenOf pd_2133 rfl) rfl (by decide) (by decide) (by decide) (by decide) e52) rfl rfl fun T53 X53 e53 => ?_
  refine w_aloadN X53 hx hby n0_65 rfl rfl ?_
  refine w_iconst X53 hx hby (1 : Int32) n0_66 rfl ?_
  refine w_calledp (call_V X53 hx hby hZ hown (argsL := [(.int (1 : Int32))]) (rest := [(.int (own_ho ((x1 &&& (2147483647 : Int32)) % (6 : Int32)) (-1 : Int32)))]) (Wd := 1) (a := (own_el eq nq ls le gr ge ((x1 &&& (2147483647 : Int32)) % (6 : Int32)))) (hw _ t_23) (hw _ t_24) (hw _ t_26) (hw _ t_25) (hw _ t_3) (hw _ t_27) (by decide) (own_el_exa f40 f41 f42 f43 f44 f45 _) (rm2 l Z a0 hw (own_el eq nq ls le gr ge ((x1 &&& (2147483647 : Int32)) % (6 : Int32))) (1 : Int32) ((x1 &&& (2147483647 : Int32)) % (6 : Int32)) h30 (own_el_od f46 f47 f48 f49 f50 f51 _) (own_el_exa f40 f41 f42 f43 f44 f45 _)) rfl n0_67 (by rw [hml]; rfl) (lenOf pd_2133 rfl) rfl (by decide) (by decide) (by decide) (by decide) e53) rfl rfl fun T54 X54 e54 => ?_
  refine f_icmp_eq X54 hx hby n0_70 (fun q70 => ?_) (fun q70 => ?_)
  · refine w_iconst X54 hx hby (0 : Int32) n0_77 rfl ?_
    refine w_istore X54 hx hby #[.val (.int x1), .val (.ref b1), .val (.int ((x1 &&& (2147483647 : Int32)) % (6 : Int32))), .val (.ref (own_el eq nq ls le gr ge ((x1 &&& (2147483647 : Int32)) % (6 : Int32)))), .val (.int (own_io eq nq (own_el eq nq ls le gr ge ((x1 &&& (2147483647 : Int32)) % (6 : Int32))))), .val (.int (0 : Int32)), .unset] n0_78 rfl ?_
    refine w_aloadN X54 hx hby n0_80 rfl rfl ?_
    refine w_calledp (call_V X54 hx hby hZ hown (argsL := []) (rest := []) (Wd := 0) (a := (own_el eq nq ls le gr ge ((x1 &&& (2147483647 : Int32)) % (6 : Int32)))) (hw _ t_37) (hw _ t_38) (hw _ t_40) (hw _ t_39) (hw _ t_3) (hw _ t_41) (by decide) (own_el_exa f40 f41 f42 f43 f44 f45 _) (rm3 l Z a0 hw eq nq ls le gr ge (own_el eq nq ls le gr ge ((x1 &&& (2147483647 : Int32)) % (6 : Int32))) ((x1 &&& (2147483647 : Int32)) % (6 : Int32)) h30 f34 f35 f36 f37 f38 f39 (own_el_od f46 f47 f48 f49 f50 f51 _) (own_el_exa f40 f41 f42 f43 f44 f45 _)) rfl n0_81 (by rw [hml]; rfl) (lenOf pd_295354 rfl) rfl (by decide) (by decide) (by decide) (by decide) e54) rfl rfl fun T55 X55 e55 => ?_
    refine w_aloadN X55 hx hby n0_84 rfl rfl ?_
    refine f_acmp_eq X55 hx hby n0_85 (fun q85 => ?_) (fun q85 => ?_)
    · refine w_iconst X55 hx hby (0 : Int32) n0_92 rfl ?_
      refine w_istore X55 hx hby #[.val (.int x1), .val (.ref b1), .val (.int ((x1 &&& (2147483647 : Int32)) % (6 : Int32))), .val (.ref (own_el eq nq ls le gr ge ((x1 &&& (2147483647 : Int32)) % (6 : Int32)))), .val (.int (own_io eq nq (own_el eq nq ls le gr ge ((x1 &&& (2147483647 : Int32)) % (6 : Int32))))), .val (.int (0 : Int32)), .val (.int (0 : Int32))] n0_93 rfl ?_
      refine w_iload X55 hx hby n0_95 rfl ?_
      refine w_iload X55 hx hby n0_97 rfl ?_
      refine f_icmp_ne X55 hx hby n0_99 (fun q99 => by exact absurd ((own_fin D x1).1.trans (if_pos q70)) q99) (fun q99 => ?_)
      refine w_iload X55 hx hby n0_102 rfl ?_
      refine w_iload X55 hx hby n0_104 rfl ?_
      refine f_icmp_ne X55 hx hby n0_106 (fun q106 => by exact absurd q99 q106) (fun q106 => ?_)
      refine w_iconst X55 hx hby (1 : Int32) n0_109 rfl ?_
      refine w_goto X55 hx hby n0_110 ?_
      refine w_retN X55 hx hby e55 hlk hret (by simp) n0_114 (by decide) (by decide) ?_
      exact ⟨rfl, N30⟩
    · refine w_iconst X55 hx hby (1 : Int32) n0_88 rfl ?_
      refine w_goto X55 hx hby n0_89 ?_
      refine w_istore X55 hx hby #[.val (.int x1), .val (.ref b1), .val (.int ((x1 &&& (2147483647 : Int32)) % (6 : Int32))), .val (.ref (own_el eq nq ls le gr ge ((x1 &&& (2147483647 : Int32)) % (6 : Int32)))), .val (.int (own_io eq nq (own_el eq nq ls le gr ge ((x1 &&& (2147483647 : Int32)) % (6 : Int32))))), .val (.int (0 : Int32)), .val (.int (1 : Int32))] n0_93 rfl ?_
      refine w_iload X55 hx hby n0_95 rfl ?_
      refine w_iload X55 hx hby n0_97 rfl ?_
      refine f_icmp_ne X55 hx hby n0_99 (fun q99 => by exact absurd ((own_fin D x1).1.trans (if_pos q70)) q99) (fun q99 => ?_)
      refine w_iload X55 hx hby n0_102 rfl ?_
      refine w_iload X55 hx hby n0_104 rfl ?_
      refine f_icmp_ne X55 hx hby n0_106 (fun q106 => by exact absurd ((own_fin D x1).2.trans (if_neg q85)) q106) (fun q106 => ?_)
      refine w_iconst X55 hx hby (1 : Int32) n0_109 rfl ?_
      refine w_goto X55 hx hby n0_110 ?_
      refine w_retN X55 hx hby e55 hlk hret (by simp) n0_114 (by decide) (by decide) ?_
      exact ⟨rfl, N30⟩
  · refine w_iconst X54 hx hby (1 : Int32) n0_73 rfl ?_
    refine w_goto X54 hx hby n0_74 ?_
    refine w_istore X54 hx hby #[.val (.int x1), .val (.ref b1), .val (.int ((x1 &&& (2147483647 : Int32)) % (6 : Int32))), .val (.ref (own_el eq nq ls le gr ge ((x1 &&& (2147483647 : Int32)) % (6 : Int32)))), .val (.int (own_io eq nq (own_el eq nq ls le gr ge ((x1 &&& (2147483647 : Int32)) % (6 : Int32))))), .val (.int (1 : Int32)), .unset] n0_78 rfl ?_
    refine w_aloadN X54 hx hby n0_80 rfl rfl ?_
    refine w_calledp (call_V X54 hx hby hZ hown (argsL := []) (rest := []) (Wd := 0) (a := (own_el eq nq ls le gr ge ((x1 &&& (2147483647 : Int32)) % (6 : Int32)))) (hw _ t_37) (hw _ t_38) (hw _ t_40) (hw _ t_39) (hw _ t_3) (hw _ t_41) (by decide) (own_el_exa f40 f41 f42 f43 f44 f45 _) (rm3 l Z a0 hw eq nq ls le gr ge (own_el eq nq ls le gr ge ((x1 &&& (2147483647 : Int32)) % (6 : Int32))) ((x1 &&& (2147483647 : Int32)) % (6 : Int32)) h30 f34 f35 f36 f37 f38 f39 (own_el_od f46 f47 f48 f49 f50 f51 _) (own_el_exa f40 f41 f42 f43 f44 f45 _)) rfl n0_81 (by rw [hml]; rfl) (lenOf pd_295354 rfl) rfl (by decide) (by decide) (by decide) (by decide) e54) rfl rfl fun T56 X56 e56 => ?_
    refine w_aloadN X56 hx hby n0_84 rfl rfl ?_
    refine f_acmp_eq X56 hx hby n0_85 (fun q85 => ?_) (fun q85 => ?_)
    · refine w_iconst X56 hx hby (0 : Int32) n0_92 rfl ?_
      refine w_istore X56 hx hby #[.val (.int x1), .val (.ref b1), .val (.int ((x1 &&& (2147483647 : Int32)) % (6 : Int32))), .val (.ref (own_el eq nq ls le gr ge ((x1 &&& (2147483647 : Int32)) % (6 : Int32)))), .val (.int (own_io eq nq (own_el eq nq ls le gr ge ((x1 &&& (2147483647 : Int32)) % (6 : Int32))))), .val (.int (1 : Int32)), .val (.int (0 : Int32))] n0_93 rfl ?_
      refine w_iload X56 hx hby n0_95 rfl ?_
      refine w_iload X56 hx hby n0_97 rfl ?_
      refine f_icmp_ne X56 hx hby n0_99 (fun q99 => by exact absurd ((own_fin D x1).1.trans (if_neg q70)) q99) (fun q99 => ?_)
      refine w_iload X56 hx hby n0_102 rfl ?_
      refine w_iload X56 hx hby n0_104 rfl ?_
      refine f_icmp_ne X56 hx hby n0_106 (fun q106 => by exact absurd ((own_fin D x1).2.trans (if_pos q85)) q106) (fun q106 => ?_)
      refine w_iconst X56 hx hby (1 : Int32) n0_109 rfl ?_
      refine w_goto X56 hx hby n0_110 ?_
      refine w_retN X56 hx hby e56 hlk hret (by simp) n0_114 (by decide) (by decide) ?_
      exact ⟨rfl, N30⟩
    · refine w_iconst X56 hx hby (1 : Int32) n0_88 rfl ?_
      refine w_goto X56 hx hby n0_89 ?_
      refine w_istore X56 hx hby #[.val (.int x1), .val (.ref b1), .val (.int ((x1 &&& (2147483647 : Int32)) % (6 : Int32))), .val (.ref (own_el eq nq ls le gr ge ((x1 &&& (2147483647 : Int32)) % (6 : Int32)))), .val (.int (own_io eq nq (own_el eq nq ls le gr ge ((x1 &&& (2147483647 : Int32)) % (6 : Int32))))), .val (.int (1 : Int32)), .val (.int (1 : Int32))] n0_93 rfl ?_
      refine w_iload X56 hx hby n0_95 rfl ?_
      refine w_iload X56 hx hby n0_97 rfl ?_
      refine f_icmp_ne X56 hx hby n0_99 (fun q99 => by exact absurd ((own_fin D x1).1.trans (if_neg q70)) q99) (fun q99 => ?_)
      refine w_iload X56 hx hby n0_102 rfl ?_
      refine w_iload X56 hx hby n0_104 rfl ?_
      refine f_icmp_ne X56 hx hby n0_106 (fun q106 => by exact absurd q99 q106) (fun q106 => ?_)
      refine w_iconst X56 hx hby (1 : Int32) n0_109 rfl ?_
      refine w_goto X56 hx hby n0_110 ?_
      refine w_retN X56 hx hby e56 hlk hret (by simp) n0_114 (by decide) (by decide) ?_
      exact ⟨rfl, N30⟩
set_option maxRecDepth 65536 in
set_option maxHeartbeats 40000000 in
theorem comes_1 {Post : Tables → Env → Array Value → State → Outcome → State → Prop} (hpost : ∀ tb e args s v u, (limb_1_1.after args s (.returned v) u = true ∧ limb_1_2.after args s (.returned v) u = true) → FrameEnd s (.returned v) u (Jvm.fieldLocs frame_1_writes args s ++ Jvm.arrayLocs frame_1_arrays args s ++ Jvm.staticLocs frame_1_statics s) 16 128 → Post tb e args s (.returned v) u) :
    ArmFor flags0 classFile x code maxLocals ret World_1 tables_1 room_1 Calls_1 rest_1 Pre_1 Post := by
  intro l hfl _ _ p e ha hc hk s m args below hf hA hF happ hP
  obtain ⟨hcalls, hrest, hpre⟩ := hP
  obtain ⟨-, -, -, hnamed, -, -, -, hat⟩ := (Spec.applies_iff hf).mp happ
  obtain ⟨hg, hn⟩ := and_e (Cond.before_iff.mp (show (Jvm.Cond.and given_1 narrow_1).before args s = true from hpre))
  obtain ⟨hcnt, hg⟩ := and_e hg
  have hg0 := hg
  obtain ⟨w0, rfl⟩ : ∃ w0 : Value, args = #[w0] := by
    have hs : args.size = 1 := by simpa [Cond.value, given_1] using hcnt
    obtain ⟨L⟩ := args
    match L, hs with
    | [w0], _ => exact ⟨w0, rfl⟩
  have hw := fun d (hd : d ∈ tables_1) => atoms_spec (ws := Jvm.Cond.code x code maxLocals ret :: tables_1) hat d (List.mem_cons_of_mem _ hd)
  have hfit : Fit s := fun {y c} hc i hi => by
    obtain ⟨ha, rfl⟩ := Array.getElem?_eq_some_iff.mp hc
    have q := List.all_eq_true.mp ((Array.all_eq_true_iff_forall_mem.mp hF) _ (Array.getElem_mem ha)) i (List.mem_range.mpr hi)
    simpa [Array.getElem?_eq_getElem hi] using q
  obtain ⟨i0, ei0⟩ := is_v hg0
  obtain rfl : w0 = (.int i0) := Option.some.inj ei0
  obtain ⟨hn0, hn⟩ := and_e hn
  obtain ⟨hn1, hn⟩ := and_e hn
  obtain ⟨hn2, hn⟩ := and_e hn
  obtain ⟨hn3, hn⟩ := and_e hn
  obtain ⟨hn4, hn⟩ := and_e hn
  obtain ⟨hn5, hn⟩ := and_e hn
  obtain ⟨hn6, hn⟩ := and_e hn
  obtain ⟨hn7, hn⟩ := and_e hn
  obtain ⟨hn8, hn⟩ := and_e hn
  obtain ⟨hn9, hn⟩ := and_e hn
  obtain ⟨hn10, hn⟩ := and_e hn
  have hn11 := hn
  obtain ⟨a_EQUAL, ev_EQUAL⟩ := exa_v hn0
  have E_EQUAL : Exa s s.heap a_EQUAL "com/example/variaform/variaform/model/feature/Constraint$Comparison" := Exa.start ev_EQUAL hn0
  have S_EQUAL : Sta s s.heap "com/example/variaform/variaform/model/feature/Constraint$Comparison" "EQUAL" "Lcom/example/variaform/variaform/model/feature/Constraint$Comparison;" (.ref a_EQUAL) := Sta.start ev_EQUAL (Or.inr ⟨hw _ t_3, hw _ t_4⟩)
  obtain ⟨a_NOT_EQUAL, ev_NOT_EQUAL⟩ := exa_v hn1
  have E_NOT_EQUAL : Exa s s.heap a_NOT_EQUAL "com/example/variaform/variaform/model/feature/Constraint$Comparison" := Exa.start ev_NOT_EQUAL hn1
  have S_NOT_EQUAL : Sta s s.heap "com/example/variaform/variaform/model/feature/Constraint$Comparison" "NOT_EQUAL" "Lcom/example/variaform/variaform/model/feature/Constraint$Comparison;" (.ref a_NOT_EQUAL) := Sta.start ev_NOT_EQUAL (Or.inr ⟨hw _ t_3, hw _ t_7⟩)
  obtain ⟨a_LESS, ev_LESS⟩ := exa_v hn2
  have E_LESS : Exa s s.heap a_LESS "com/example/variaform/variaform/model/feature/Constraint$Comparison" := Exa.start ev_LESS hn2
  have S_LESS : Sta s s.heap "com/example/variaform/variaform/model/feature/Constraint$Comparison" "LESS" "Lcom/example/variaform/variaform/model/feature/Constraint$Comparison;" (.ref a_LESS) := Sta.start ev_LESS (Or.inr ⟨hw _ t_3, hw _ t_9⟩)
  obtain ⟨a_LESS_OR_EQUAL, ev_LESS_OR_EQUAL⟩ := exa_v hn3
  have E_LESS_OR_EQUAL : Exa s s.heap a_LESS_OR_EQUAL "com/example/variaform/variaform/model/feature/Constraint$Comparison" := Exa.start ev_LESS_OR_EQUAL hn3
  have S_LESS_OR_EQUAL : Sta s s.heap "com/example/variaform/variaform/model/feature/Constraint$Comparison" "LESS_OR_EQUAL" "Lcom/example/variaform/variaform/model/feature/Constraint$Comparison;" (.ref a_LESS_OR_EQUAL) := Sta.start ev_LESS_OR_EQUAL (Or.inr ⟨hw _ t_3, hw _ t_11⟩)
  obtain ⟨a_GREATER, ev_GREATER⟩ := exa_v hn4
  have E_GREATER : Exa s s.heap a_GREATER "com/example/variaform/variaform/model/feature/Constraint$Comparison" := Exa.start ev_GREATER hn4
  have S_GREATER : Sta s s.heap "com/example/variaform/variaform/model/feature/Constraint$Comparison" "GREATER" "Lcom/example/variaform/variaform/model/feature/Constraint$Comparison;" (.ref a_GREATER) := Sta.start ev_GREATER (Or.inr ⟨hw _ t_3, hw _ t_13⟩)
  obtain ⟨a_GREATER_OR_EQUAL, ev_GREATER_OR_EQUAL⟩ := exa_v hn5
  have E_GREATER_OR_EQUAL : Exa s s.heap a_GREATER_OR_EQUAL "com/example/variaform/variaform/model/feature/Constraint$Comparison" := Exa.start ev_GREATER_OR_EQUAL hn5
  have S_GREATER_OR_EQUAL : Sta s s.heap "com/example/variaform/variaform/model/feature/Constraint$Comparison" "GREATER_OR_EQUAL" "Lcom/example/variaform/variaform/model/feature/Constraint$Comparison;" (.ref a_GREATER_OR_EQUAL) := Sta.start ev_GREATER_OR_EQUAL (Or.inr ⟨hw _ t_3, hw _ t_15⟩)
  have F_EQUAL_ordinal : Fld s s.heap a_EQUAL "java/lang/Enum" "ordinal" "I" (.int (0 : Int32)) := Fld.start ((fld_at ev_EQUAL).symm.trans (own_eqI hn6))
  have F_LESS_OR_EQUAL_ordinal : Fld s s.heap a_LESS_OR_EQUAL "java/lang/Enum" "ordinal" "I" (.int (3 : Int32)) := Fld.start ((fld_at ev_LESS_OR_EQUAL).symm.trans (own_eqI hn7))
  have F_NOT_EQUAL_ordinal : Fld s s.heap a_NOT_EQUAL "java/lang/Enum" "ordinal" "I" (.int (1 : Int32)) := Fld.start ((fld_at ev_NOT_EQUAL).symm.trans (own_eqI hn8))
  have F_GREATER_OR_EQUAL_ordinal : Fld s s.heap a_GREATER_OR_EQUAL "java/lang/Enum" "ordinal" "I" (.int (5 : Int32)) := Fld.start ((fld_at ev_GREATER_OR_EQUAL).symm.trans (own_eqI hn9))
  have F_LESS_ordinal : Fld s s.heap a_LESS "java/lang/Enum" "ordinal" "I" (.int (2 : Int32)) := Fld.start ((fld_at ev_LESS).symm.trans (own_eqI hn10))
  have F_GREATER_ordinal : Fld s s.heap a_GREATER "java/lang/Enum" "ordinal" "I" (.int (4 : Int32)) := Fld.start ((fld_at ev_GREATER).symm.trans (own_eqI hn11))
  have D : own_diff a_EQUAL a_NOT_EQUAL a_LESS a_LESS_OR_EQUAL a_GREATER a_GREATER_OR_EQUAL := ⟨Fld.ne F_NOT_EQUAL_ordinal F_EQUAL_ordinal (by decide), Fld.ne F_LESS_ordinal F_EQUAL_ordinal (by decide), Fld.ne F_LESS_OR_EQUAL_ordinal F_EQUAL_ordinal (by decide), Fld.ne F_GREATER_ordinal F_EQUAL_ordinal (by decide), Fld.ne F_GREATER_OR_EQUAL_ordinal F_EQUAL_ordinal (by decide), Fld.ne F_LESS_ordinal F_NOT_EQUAL_ordinal (by decide), Fld.ne F_LESS_OR_EQUAL_ordinal F_NOT_EQUAL_ordinal (by decide), Fld.ne F_GREATER_ordinal F_NOT_EQUAL_ordinal (by decide), Fld.ne F_GREATER_OR_EQUAL_ordinal F_NOT_EQUAL_ordinal (by decide), Fld.ne F_GREATER_ordinal F_LESS_ordinal (by decide), Fld.ne F_GREATER_OR_EQUAL_ordinal F_LESS_OR_EQUAL_ordinal (by decide)⟩
  obtain ⟨n, o, h1, h2, h3, _, L, rfl, ⟨rfl, N⟩, hq⟩ := law0 l s _ hw a_EQUAL a_NOT_EQUAL a_LESS a_LESS_OR_EQUAL a_GREATER a_GREATER_OR_EQUAL i0 s.heap S_EQUAL S_NOT_EQUAL S_LESS S_LESS_OR_EQUAL S_GREATER S_GREATER_OR_EQUAL E_EQUAL E_NOT_EQUAL E_LESS E_LESS_OR_EQUAL E_GREATER E_GREATER_OR_EQUAL F_EQUAL_ordinal F_NOT_EQUAL_ordinal F_LESS_ordinal F_LESS_OR_EQUAL_ordinal F_GREATER_ordinal F_GREATER_OR_EQUAL_ordinal D tables_1 p e ha hc hk s m _ below hf ((Spec.applies_iff_loose hf).mp happ).1 ⟨rfl, State.Warmed39.refl s, rfl⟩ trivial
  exact ⟨n, _, h1, h2, h3, hpost _ _ _ _ _ _ ⟨Cond.after_iff.mpr rfl, Cond.after_iff.mpr (eq_i res_at (Term.int_eval (1)) rfl)⟩ ⟨hq.1, hq.2.1, (hq.2.2.sift fun y hy => Or.inr (N y hy)).mono (by decide) (by decide)⟩⟩
theorem main_1_1 : Claimed_1_1 := comes_1 fun _ _ _ _ _ _ h hF => ⟨h.1, hF⟩
theorem main_1_2 : Claimed_1_2 := comes_1 fun _ _ _ _ _ _ h hF => ⟨h.2, hF⟩
end Jvm.Pilot.@@N@@
namespace Jvm.Pilot.@@N@@
open Jvm Jvm.ClassFile Sem Op Lib Jvm.Free Jvm.Stand Jvm.Pilot.@@N@@.Jvm.D
/-! MADE BY PROGRAM (witnessworld.py) out of the Statement's table words and the real class files: 13 classes; the members and pool entries that the words name. The judged class is class 1, her method 1. -/
namespace start1
open Jvm.ClassFile
def u (s : String) : CpInfo := .utf8 (stringToUtf16 s)
/-- a pool by its gaps: so many unusable entries, then the entry; so many at the end -/
def gap : Nat → List CpInfo → List CpInfo
  | 0, r => r
  | n + 1, r => .unusable :: gap n r
def poolList (es : List (Nat × CpInfo)) (last : Nat) : List CpInfo := es.foldr (fun e r => gap e.1 (e.2 :: r)) (gap last [])
def pool (es : List (Nat × CpInfo)) (last : Nat) : Array CpInfo := ⟨poolList es last⟩
def fileOf (pool : Array CpInfo) (this : Nat) (attrs : Array Attribute := #[]) (ms : Array MethodInfo := #[]) (fl : Nat := 33) (sup : Nat := 0) (ifs : Array Nat := #[]) (fds : Array FieldInfo := #[]) : ClassFile where
  minorVersion := 0
  majorVersion := 65
  constantPool := pool
  accessFlags := fl
  thisClass := this
  superClass := sup
  interfaces := ifs
  fields := fds
  methods := ms
  attributes := attrs
def plain (name : String) (sup : Option ClassId) : Class where
  name := name
  kind := .ordinary
  loader := none
  accessFlags := 33
  super := sup
  interfaces := #[]
  cf := none
  fields := #[]
  methods := #[]
  instanceTypes := #[]
  staticTypes := #[]
  resolved := #[]
  callSites := []
  init := .initialized
  statics := none
  mirror := none

def pool0 : Array CpInfo := pool [(5, u "<init>"), (0, u "()V"), (1, .class_ 10), (1, u "java/lang/Object")] 113

def k0m0 : Method := { name := "<init>", desc := "()V", sig := { parameters := [], returnType := none }, accessFlags := 1, code := none }
/-- java/lang/Object -/
def k0 : Class := { plain "java/lang/Object" none with
  accessFlags := 33
  interfaces := #[]
  cf := some (fileOf pool0 8 #[] #[{ accessFlags := 1, nameIndex := 5, descriptorIndex := 6, attributes := #[] }] 33 0 #[] #[])
  fields := #[]
  methods := #[k0m0]
  instanceTypes := #[]
  staticTypes := #[]
  resolved := Array.replicate 124 none
  statics := none }

def pool1 : Array CpInfo := pool [(2, .class_ 4), (1, u "java/lang/Object"), (0, u "<init>"), (0, u "()V"), (0, .class_ 8), (0, u "com/example/variaform/variaform/model/feature/Constraint$Comparison"), (0, .fieldref 7 10), (0, .nameAndType 11 12), (0, u "EQUAL"), (0, u "Lcom/example/variaform/variaform/model/feature/Constraint$Comparison;"), (0, .fieldref 7 14), (0, .nameAndType 15 12), (0, u "NOT_EQUAL"), (0, .fieldref 7 17), (0, .nameAndType 18 12), (0, u "LESS"), (0, .fieldref 7 20), (0, .nameAndType 21 12), (0, u "LESS_OR_EQUAL"), (0, .fieldref 7 23), (0, .nameAndType 24 12), (0, u "GREATER"), (0, .fieldref 7 26), (0, .nameAndType 27 12), (0, u "GREATER_OR_EQUAL"), (0, .integer 2147483647), (0, .methodref 7 30), (0, .nameAndType 31 32), (0, u "isOrder"), (0, u "()Z"), (0, .methodref 7 34), (0, .nameAndType 35 36), (0, u "holds"), (0, u "(I)Z"), (0, .methodref 7 38), (0, .nameAndType 39 40), (0, u "swapped"), (0, u "()Lcom/example/variaform/variaform/model/feature/Constraint$Comparison;"), (0, .class_ 42), (0, u "com/example/variaform/variaform/model/feature/ComparisonIsOrderPinLaw"), (2, u "law")] 9

def k1m0 : Method := { name := "<init>", desc := "()V", sig := { parameters := [], returnType := none }, accessFlags := 1, code := none }
def k1c1 : Code := { maxStack := 4, maxLocals := 7, code := code, exceptionTable := #[], attributes := #[] }
def k1m1 : Method := { name := "law", desc := "(I)Z", sig := { parameters := [.int], returnType := some .boolean }, accessFlags := 9, code := some k1c1 }
/-- com/example/variaform/variaform/model/feature/ComparisonIsOrderPinLaw -/
def k1 : Class := { plain "com/example/variaform/variaform/model/feature/ComparisonIsOrderPinLaw" (some 0) with
  accessFlags := 49
  interfaces := #[]
  cf := some (fileOf pool1 41 #[] #[{ accessFlags := 1, nameIndex := 5, descriptorIndex := 6, attributes := #[] }, { accessFlags := 9, nameIndex := 45, descriptorIndex := 36, attributes := #[] }] 49 2 #[] #[])
  fields := #[]
  methods := #[k1m0, k1m1]
  instanceTypes := #[]
  staticTypes := #[]
  resolved := Array.replicate 55 none
  statics := none }

def pool2 : Array CpInfo := pool [(1, .class_ 2), (0, u "java/lang/constant/Constable"), (0, .class_ 4), (0, u "java/lang/Object")] 6

/-- java/lang/constant/Constable -/
def k2 : Class := { plain "java/lang/constant/Constable" (some 0) with
  accessFlags := 1537
  interfaces := #[]
  cf := some (fileOf pool2 1 #[] #[] 1537 3 #[] #[])
  fields := #[]
  methods := #[]
  instanceTypes := #[]
  staticTypes := #[]
  resolved := Array.replicate 11 none
  statics := none }

def pool3 : Array CpInfo := pool [(1, .class_ 2), (0, u "java/lang/Comparable"), (0, .class_ 4), (0, u "java/lang/Object")] 7

/-- java/lang/Comparable -/
def k3 : Class := { plain "java/lang/Comparable" (some 0) with
  accessFlags := 1537
  interfaces := #[]
  cf := some (fileOf pool3 1 #[] #[] 1537 3 #[] #[])
  fields := #[]
  methods := #[]
  instanceTypes := #[]
  staticTypes := #[]
  resolved := Array.replicate 12 none
  statics := none }

def pool4 : Array CpInfo := pool [(1, .class_ 2), (0, u "java/io/Serializable"), (0, .class_ 4), (0, u "java/lang/Object")] 2

/-- java/io/Serializable -/
def k4 : Class := { plain "java/io/Serializable" (some 0) with
  accessFlags := 1537
  interfaces := #[]
  cf := some (fileOf pool4 1 #[] #[] 1537 3 #[] #[])
  fields := #[]
  methods := #[]
  instanceTypes := #[]
  staticTypes := #[]
  resolved := Array.replicate 7 none
  statics := none }

def pool5 : Array CpInfo := pool [(2, .class_ 4), (1, u "java/lang/Enum"), (0, u "name"), (0, u "Ljava/lang/String;"), (0, .fieldref 2 8), (0, .nameAndType 9 10), (0, u "ordinal"), (0, u "I"), (1, .class_ 14), (1, u "java/lang/Object"), (4, u "hash"), (86, .class_ 108), (1, u "java/lang/Enum$EnumDesc"), (2, .class_ 112), (0, u "java/lang/constant/Constable"), (0, .class_ 114), (0, u "java/lang/Comparable"), (0, .class_ 116), (0, u "java/io/Serializable"), (9, u "()I")] 77

def k5c0 : Code := { maxStack := 1, maxLocals := 1, code := jdk_37_method_2_code, exceptionTable := #[], attributes := #[] }
def k5m0 : Method := { name := "ordinal", desc := "()I", sig := { parameters := [], returnType := some .int }, accessFlags := 17, code := some k5c0 }
/-- java/lang/Enum -/
def k5 : Class := { plain "java/lang/Enum" (some 0) with
  accessFlags := 1057
  interfaces := #[2, 3, 4]
  cf := some (fileOf pool5 2 #[.nestMembers #[106]] #[{ accessFlags := 17, nameIndex := 9, descriptorIndex := 126, attributes := #[] }] 1057 12 #[111, 113, 115] #[{ accessFlags := 18, nameIndex := 5, descriptorIndex := 6, attributes := #[] }, { accessFlags := 18, nameIndex := 9, descriptorIndex := 10, attributes := #[] }, { accessFlags := 2, nameIndex := 19, descriptorIndex := 10, attributes := #[] }])
  fields := #[{ name := "name", type := (.object "java/lang/String"), accessFlags := 18, slot := 0, constantValue := 0 }, { name := "ordinal", type := .int, accessFlags := 18, slot := 1, constantValue := 0 }, { name := "hash", type := .int, accessFlags := 2, slot := 2, constantValue := 0 }]
  methods := #[k5m0]
  instanceTypes := #[(.object "java/lang/String"), .int, .int]
  staticTypes := #[]
  resolved := Array.replicate 204 none
  statics := none }

def pool6 : Array CpInfo := pool [(1, .class_ 2), (0, u "com/example/variaform/variaform/model/feature/Constraint$Comparison"), (0, .fieldref 1 4), (0, .nameAndType 5 6), (0, u "EQUAL"), (0, u "Lcom/example/variaform/variaform/model/feature/Constraint$Comparison;"), (0, .fieldref 1 8), (0, .nameAndType 9 6), (0, u "NOT_EQUAL"), (0, .fieldref 1 11), (0, .nameAndType 12 6), (0, u "LESS"), (0, .fieldref 1 14), (0, .nameAndType 15 6), (0, u "LESS_OR_EQUAL"), (0, .fieldref 1 17), (0, .nameAndType 18 6), (0, u "GREATER"), (0, .fieldref 1 20), (0, .nameAndType 21 6), (0, u "GREATER_OR_EQUAL"), (2, u "$VALUES"), (0, u "[Lcom/example/variaform/variaform/model/feature/Constraint$Comparison;"), (6, .class_ 34), (1, u "java/lang/Enum"), (8, u "symbol"), (0, u "Ljava/lang/String;"), (10, .methodref 1 56), (0, .nameAndType 57 58), (0, u "ordinal"), (0, u "()I"), (33, u "holds"), (0, u "(I)Z"), (0, u "swapped"), (0, u "()Lcom/example/variaform/variaform/model/feature/Constraint$Comparison;"), (0, u "isOrder"), (0, u "()Z"), (6, .class_ 105), (0, u "com/example/variaform/variaform/model/feature/Constraint")] 2

def k6c0 : Code := { maxStack := 1, maxLocals := 2, code := prog_34_method_6_code, exceptionTable := #[], attributes := #[] }
def k6m0 : Method := { name := "holds", desc := "(I)Z", sig := { parameters := [.int], returnType := some .boolean }, accessFlags := 1, code := some k6c0 }
def k6c1 : Code := { maxStack := 1, maxLocals := 1, code := prog_34_method_7_code, exceptionTable := #[], attributes := #[] }
def k6m1 : Method := { name := "swapped", desc := "()Lcom/example/variaform/variaform/model/feature/Constraint$Comparison;", sig := { parameters := [], returnType := some (.object "com/example/variaform/variaform/model/feature/Constraint$Comparison") }, accessFlags := 1, code := some k6c1 }
def k6c2 : Code := { maxStack := 2, maxLocals := 1, code := prog_34_method_8_code, exceptionTable := #[], attributes := #[] }
def k6m2 : Method := { name := "isOrder", desc := "()Z", sig := { parameters := [], returnType := some .boolean }, accessFlags := 1, code := some k6c2 }
/-- com/example/variaform/variaform/model/feature/Constraint$Comparison -/
def k6 : Class := { plain "com/example/variaform/variaform/model/feature/Constraint$Comparison" (some 5) with
  accessFlags := 16433
  interfaces := #[]
  cf := some (fileOf pool6 1 #[.nestHost 104] #[{ accessFlags := 1, nameIndex := 92, descriptorIndex := 93, attributes := #[] }, { accessFlags := 1, nameIndex := 94, descriptorIndex := 95, attributes := #[] }, { accessFlags := 1, nameIndex := 96, descriptorIndex := 97, attributes := #[] }] 16433 32 #[] #[{ accessFlags := 16409, nameIndex := 5, descriptorIndex := 6, attributes := #[] }, { accessFlags := 16409, nameIndex := 9, descriptorIndex := 6, attributes := #[] }, { accessFlags := 16409, nameIndex := 12, descriptorIndex := 6, attributes := #[] }, { accessFlags := 16409, nameIndex := 15, descriptorIndex := 6, attributes := #[] }, { accessFlags := 16409, nameIndex := 18, descriptorIndex := 6, attributes := #[] }, { accessFlags := 16409, nameIndex := 21, descriptorIndex := 6, attributes := #[] }, { accessFlags := 18, nameIndex := 43, descriptorIndex := 44, attributes := #[] }, { accessFlags := 4122, nameIndex := 24, descriptorIndex := 25, attributes := #[] }])
  fields := #[{ name := "EQUAL", type := (.object "com/example/variaform/variaform/model/feature/Constraint$Comparison"), accessFlags := 16409, slot := 0, constantValue := 0 }, { name := "NOT_EQUAL", type := (.object "com/example/variaform/variaform/model/feature/Constraint$Comparison"), accessFlags := 16409, slot := 1, constantValue := 0 }, { name := "LESS", type := (.object "com/example/variaform/variaform/model/feature/Constraint$Comparison"), accessFlags := 16409, slot := 2, constantValue := 0 }, { name := "LESS_OR_EQUAL", type := (.object "com/example/variaform/variaform/model/feature/Constraint$Comparison"), accessFlags := 16409, slot := 3, constantValue := 0 }, { name := "GREATER", type := (.object "com/example/variaform/variaform/model/feature/Constraint$Comparison"), accessFlags := 16409, slot := 4, constantValue := 0 }, { name := "GREATER_OR_EQUAL", type := (.object "com/example/variaform/variaform/model/feature/Constraint$Comparison"), accessFlags := 16409, slot := 5, constantValue := 0 }, { name := "symbol", type := (.object "java/lang/String"), accessFlags := 18, slot := 3, constantValue := 0 }, { name := "$VALUES", type := (.array (.object "com/example/variaform/variaform/model/feature/Constraint$Comparison")), accessFlags := 4122, slot := 6, constantValue := 0 }]
  methods := #[k6m0, k6m1, k6m2]
  instanceTypes := #[(.object "java/lang/String"), .int, .int, (.object "java/lang/String")]
  staticTypes := #[(.object "com/example/variaform/variaform/model/feature/Constraint$Comparison"), (.object "com/example/variaform/variaform/model/feature/Constraint$Comparison"), (.object "com/example/variaform/variaform/model/feature/Constraint$Comparison"), (.object "com/example/variaform/variaform/model/feature/Constraint$Comparison"), (.object "com/example/variaform/variaform/model/feature/Constraint$Comparison"), (.object "com/example/variaform/variaform/model/feature/Constraint$Comparison"), (.array (.object "com/example/variaform/variaform/model/feature/Constraint$Comparison"))]
  resolved := Array.replicate 108 none
  statics := some 0 }

def pool7 : Array CpInfo := pool [(1, u "java/lang/Cloneable"), (0, .class_ 1), (0, u "java/lang/Object"), (0, .class_ 3)] 3

/-- java/lang/Cloneable -/
def k7 : Class := { plain "java/lang/Cloneable" (some 0) with
  accessFlags := 1537
  interfaces := #[]
  cf := some (fileOf pool7 2 #[] #[] 1537 4 #[] #[])
  fields := #[]
  methods := #[]
  instanceTypes := #[]
  staticTypes := #[]
  resolved := Array.replicate 8 none
  statics := none }

/-- the primitive byte -/
def k8 : Class := { plain "byte" none with kind := .primitive 'B', accessFlags := 0x411 }
/-- [B -/
def k9 : Class := { plain "[B" (some 0) with kind := .array 8 .byte, interfaces := #[7, 4], accessFlags := 1041 }

/-- the primitive int -/
def k10 : Class := { plain "int" none with kind := .primitive 'I', accessFlags := 0x411 }
/-- [I -/
def k11 : Class := { plain "[I" (some 0) with kind := .array 10 .int, interfaces := #[7, 4], accessFlags := 1041 }

/-- [Lcom/example/variaform/variaform/model/feature/Constraint$Comparison; -/
def k12 : Class := { plain "[Lcom/example/variaform/variaform/model/feature/Constraint$Comparison;" (some 0) with kind := .array 6 (.object "com/example/variaform/variaform/model/feature/Constraint$Comparison"), interfaces := #[7, 4], accessFlags := 1041 }

def heap : Heap := #[{ cls := 6, slots := #[.ref 1, .ref 2, .ref 3, .ref 4, .ref 5, .ref 6, .null], vm := .statics 6 },
  { cls := 6, slots := #[.null, .int 0, .int 0, .null], vm := .none },
  { cls := 6, slots := #[.null, .int 1, .int 0, .null], vm := .none },
  { cls := 6, slots := #[.null, .int 2, .int 0, .null], vm := .none },
  { cls := 6, slots := #[.null, .int 3, .int 0, .null], vm := .none },
  { cls := 6, slots := #[.null, .int 4, .int 0, .null], vm := .none },
  { cls := 6, slots := #[.null, .int 5, .int 0, .null], vm := .none }]
def classes : Array Class := #[k0, k1, k2, k3, k4, k5, k6, k7, k8, k9, k10, k11, k12]
def interned : List (Array UInt16 × Addr) := []
def slotsUsed : Nat := 31
def theMethod : MethodId := ⟨1, 1⟩
def args0 : Array Value := #[.int 5]
def aboutOver (below : List Frame) : State where
  vm := { classes := classes, interned := interned.toArray }
  heap := heap
  slotsUsed := slotsUsed
  threads := #[{ frames := .invoking theMethod args0 :: below }]
def below0 : List Frame := [.native { method := ⟨0, 0⟩, args := #[] }]
def about1 : State := aboutOver below0
def p0 : Program := .bare "" "" ""
def e0 : Env := launch0.env 0 0 0
theorem w_frames : about1.frames = Frame.invoking theMethod args0 :: below0 := rfl
set_option maxRecDepth 65536 in
theorem w_args : argsFit about1.vm theMethod args0 = true := by decide +kernel
set_option maxRecDepth 65536 in
theorem w_heap : heapFits about1 = true := by decide +kernel
set_option maxRecDepth 65536 in
theorem w_runnable : about1.curStatus? = some .runnable := by decide +kernel
set_option maxRecDepth 65536 in
theorem w_alone : about1.alone = true := by decide +kernel
set_option maxRecDepth 65536 in
theorem w_named : about1.methodNamed? x = some theMethod := by decide +kernel
set_option maxRecDepth 65536 in
theorem w_hears : about1.hears theMethod below0 = true := by decide +kernel
set_option maxRecDepth 65536 in
theorem w_ripe : about1.ripe theMethod args0 below0 = true := by decide +kernel
theorem w_running : about1.status = .running := rfl
set_option maxRecDepth 65536 in
theorem w_room : about1.hasRoom e0.platform room_1 = true :=
  launch0.hasRoom_least _ room_1 (by decide +kernel) (by decide +kernel) (by decide +kernel) (by decide +kernel) (by decide +kernel) (by decide +kernel)
theorem allAtoms_all (ts : List Jvm.Cond) (a : Array Jvm.Value) (st : Jvm.State) : (allAtoms ts).before a st = ts.all (fun c => c.before a st) := by
  induction ts with
  | nil => rfl
  | cons c t ih =>
    show (Jvm.Cond.and c (allAtoms t)).before a st = _
    rw [Jvm.Cond.before_and, ih, List.all_cons]
def words1 : List Jvm.Cond := Jvm.Cond.code x code maxLocals ret :: tables_1
/-- a 'code' word, met by the world's own term for the bytes: nothing is compared byte by byte -/
theorem code_word {y : MethodName} {bytes : ByteArray} {mx : Nat} {rt : Option FieldType} {a : Array Value} {s : State} {m : MethodId} {meth : Method} {c : Code} (h1 : s.methodNamed? y = some m) (h2 : s.vm.method? m = some meth) (h3 : meth.code = some c) (h4 : c.code = bytes)
    (h5 : (c.maxLocals == mx && c.exceptionTable.isEmpty && decide (c.maxStack ≤ mostOperands) && decide (meth.sig.returnType = rt) && !meth.locks && decide (parseMethodDescriptor y.desc = some meth.sig)) = true) : (Jvm.Cond.code y bytes mx rt).before a s = true := by
  simp only [Bool.and_eq_true, beq_iff_eq, Bool.not_eq_true', decide_eq_true_eq] at h5
  obtain ⟨⟨⟨⟨⟨g1, g2⟩, g3⟩, g4⟩, g5⟩, g6⟩ := h5
  simp [Cond.before, Cond.holds, Cond.value, h1, h2, h3, h4, g1, g2, g3, g4, g5, g6]
def isCode : Jvm.Cond → Bool
  | .code _ _ _ _ => true
  | _ => false
theorem all_split {L : List Jvm.Cond} {P : Jvm.Cond → Bool} (h1 : L.all (fun c => isCode c || P c) = true) (h2 : ∀ c ∈ L.filter isCode, P c = true) : L.all P = true := by
  refine List.all_eq_true.mpr fun c hc => ?_
  have h := List.all_eq_true.mp h1 c hc
  rcases Bool.eq_false_or_eq_true (isCode c) with hi | hi
  · exact h2 c (List.mem_filter.mpr ⟨hc, hi⟩)
  · simpa [hi] using h
set_option maxRecDepth 65536 in
theorem w_c0 : (Jvm.Cond.code x code maxLocals ret).before args0 about1 = true := code_word (m := ⟨1, 1⟩) (meth := k1m1) (c := k1c1) (by decide +kernel) rfl rfl rfl (by decide +kernel)
set_option maxRecDepth 65536 in
theorem w_c1 : (Jvm.Cond.code ({ cls := "com/example/variaform/variaform/model/feature/Constraint$Comparison", name := "isOrder", desc := "()Z" } : Jvm.MethodName) prog_34_method_8_code (1 : Nat) (Option.some Jvm.ClassFile.FieldType.boolean)).before args0 about1 = true := code_word (m := ⟨6, 2⟩) (meth := k6m2) (c := k6c2) (by decide +kernel) rfl rfl rfl (by decide +kernel)
set_option maxRecDepth 65536 in
theorem w_c2 : (Jvm.Cond.code ({ cls := "com/example/variaform/variaform/model/feature/Constraint$Comparison", name := "holds", desc := "(I)Z" } : Jvm.MethodName) prog_34_method_6_code (2 : Nat) (Option.some Jvm.ClassFile.FieldType.boolean)).before args0 about1 = true := code_word (m := ⟨6, 0⟩) (meth := k6m0) (c := k6c0) (by decide +kernel) rfl rfl rfl (by decide +kernel)
set_option maxRecDepth 65536 in
theorem w_c3 : (Jvm.Cond.code ({ cls := "java/lang/Enum", name := "ordinal", desc := "()I" } : Jvm.MethodName) jdk_37_method_2_code (1 : Nat) (Option.some Jvm.ClassFile.FieldType.int)).before args0 about1 = true := code_word (m := ⟨5, 0⟩) (meth := k5m0) (c := k5c0) (by decide +kernel) rfl rfl rfl (by decide +kernel)
set_option maxRecDepth 65536 in
theorem w_c4 : (Jvm.Cond.code ({ cls := "com/example/variaform/variaform/model/feature/Constraint$Comparison", name := "swapped", desc := "()Lcom/example/variaform/variaform/model/feature/Constraint$Comparison;" } : Jvm.MethodName) prog_34_method_7_code (1 : Nat) (Option.some (Jvm.ClassFile.FieldType.object "com/example/variaform/variaform/model/feature/Constraint$Comparison"))).before args0 about1 = true := code_word (m := ⟨6, 1⟩) (meth := k6m1) (c := k6c1) (by decide +kernel) rfl rfl rfl (by decide +kernel)
def codes1 : List Jvm.Cond := [Jvm.Cond.code x code maxLocals ret, Jvm.Cond.code ({ cls := "com/example/variaform/variaform/model/feature/Constraint$Comparison", name := "isOrder", desc := "()Z" } : Jvm.MethodName) prog_34_method_8_code (1 : Nat) (Option.some Jvm.ClassFile.FieldType.boolean), Jvm.Cond.code ({ cls := "com/example/variaform/variaform/model/feature/Constraint$Comparison", name := "holds", desc := "(I)Z" } : Jvm.MethodName) prog_34_method_6_code (2 : Nat) (Option.some Jvm.ClassFile.FieldType.boolean), Jvm.Cond.code ({ cls := "java/lang/Enum", name := "ordinal", desc := "()I" } : Jvm.MethodName) jdk_37_method_2_code (1 : Nat) (Option.some Jvm.ClassFile.FieldType.int), Jvm.Cond.code ({ cls := "com/example/variaform/variaform/model/feature/Constraint$Comparison", name := "swapped", desc := "()Lcom/example/variaform/variaform/model/feature/Constraint$Comparison;" } : Jvm.MethodName) prog_34_method_7_code (1 : Nat) (Option.some (Jvm.ClassFile.FieldType.object "com/example/variaform/variaform/model/feature/Constraint$Comparison"))]
set_option maxRecDepth 65536 in
theorem codes_eq : words1.filter isCode = codes1 := rfl
theorem w_codes : ∀ c ∈ words1.filter isCode, c.before args0 about1 = true := by
  rw [codes_eq]
  intro c hc
  simp only [codes1, List.mem_cons, List.not_mem_nil, or_false] at hc
  rcases hc with rfl | rfl | rfl | rfl | rfl
  · exact w_c0
  · exact w_c1
  · exact w_c2
  · exact w_c3
  · exact w_c4
set_option maxRecDepth 65536 in
theorem w_t1 : (words1.take 24).all (fun c => isCode c || c.before args0 about1) = true := by decide +kernel
set_option maxRecDepth 65536 in
theorem w_t2 : (words1.drop 24).all (fun c => isCode c || c.before args0 about1) = true := by decide +kernel
theorem w_tables : (allAtoms (Jvm.Cond.code x code maxLocals ret :: tables_1)).before args0 about1 = true := by
  rw [allAtoms_all]
  show words1.all (fun c => c.before args0 about1) = true
  refine all_split ?_ w_codes
  rw [← List.take_append_drop 24 words1, List.all_append, w_t1, w_t2]
  rfl
set_option maxRecDepth 65536 in
theorem w_case : (Jvm.Cond.and given_1 narrow_1).before args0 about1 = true := by decide +kernel
theorem w_applies : (headSpec (Jvm.Cond.code x code maxLocals ret :: tables_1) room_1).applies x e0.platform about1 = true :=
  (Spec.applies_iff w_frames).mpr ⟨w_running, w_runnable, w_alone, w_named, w_hears, w_ripe, w_room, w_tables⟩
theorem atStart : AtStart classFile x code maxLocals ret World_1 tables_1 room_1 Calls_1 rest_1 Pre_1 launch0 p0 e0 about1 theMethod args0 below0 :=
  ⟨lists_1, trivial, launch0.admits_env _ _ _, launch0.least_env, fairChoices_fair.cas, fairChoices_fair.clock, w_frames, w_args, w_heap, w_applies, trivial, trivial, w_case⟩
end start1
theorem witness_1 : WitnessClaimed_1 := ⟨start1.p0, start1.e0, start1.about1, start1.theMethod, start1.args0, start1.below0, start1.atStart⟩
end Jvm.Pilot.@@N@@
