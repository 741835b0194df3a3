import JvmDerived
import JvmDerived.Pilot.@@N@@Statement
import JvmDerived.Pilot.@@N@@Code
set_option linter.unusedVariables false
set_option linter.unusedSimpArgs false
namespace Jvm.Pilot.@@N@@
open Jvm Jvm.ClassFile Sem Op Lib Jvm.Free Jvm.Stand Jvm.LawKit Jvm.RoadKit Bundle Jvm.Pilot.@@N@@.Jvm.D
section OwnKit
variable {p : Program} {l : Launch} {e : Env} {R : Room} {s : State} {m : MethodId} {args : Array Value} {below : List Frame} {meth : Method} {c : Code} {T : State} {locs : List Loc} {cells slots : Nat} {Z : State} {a0 : Array Value} {h : Heap} {K N : Nat} {Q : Option Value → Heap → List Loc → Prop} {pc nx tg : Nat} {Ls : Array Slot} {st : List Value} {bs : ByteArray} {o : Int}
/-- from the frame g at T the run ends, returning, as Q says -/
def Wp (p : Program) (e : Env) (below : List Frame) (s : State) (K N : Nat) (Q : Option Value → Heap → List Loc → Prop) (T : State) (g : JFrame) : Prop :=
  ∃ s₂ o, Steps p.tables e below (T.setTop g) s₂ ∧ s₂.status = .running ∧ Ended s₂ below o ∧ ∃ v L, o = .returned v ∧ Q v s₂.heap L ∧ FrameEnd s o s₂ L K N
theorem Wp.go {T' : State} {g g' : JFrame} (st : ∀ target, Steps p.tables e below (T'.setTop g') target → Steps p.tables e below (T.setTop g) target) (k : Wp p e below s K N Q T' g') : Wp p e below s K N Q T g := by
  obtain ⟨s₂, o, h1, h2⟩ := k; exact ⟨s₂, o, st _ h1, h2⟩
theorem Wp.tr {T' : State} {g g' : JFrame} (st : Steps p.tables e below (T.setTop g) (T'.setTop g')) (k : Wp p e below s K N Q T' g') : Wp p e below s K N Q T g := by
  obtain ⟨s₂, o, h1, h2⟩ := k; exact ⟨s₂, o, st.trans h1, h2⟩
/-- the instruction i, len bytes long, stands at pc; the next one at nx -/
def In (bs : ByteArray) (pc : Nat) (i : Instr) (len nx : Nat) : Prop := decode bs pc = .ok (i, len) ∧ pc + len = nx
/-- a jump by o: the next one at nx, the target at tg -/
def Jm (bs : ByteArray) (pc : Nat) (i : Instr) (o : Int) (nx tg : Nat) : Prop := decode bs pc = .ok (i, 3) ∧ pc + 3 = nx ∧ 0 ≤ (pc : Int) + o ∧ ((pc : Int) + o).toNat = tg

theorem w_iadd (X : Stand p l e R s m args below meth c T locs cells slots) (hx : p.tables.exec = Jvm.exec) (hby : c.code = bs) {x y : Int32} (hd : In bs pc (.iadd) 1 nx) (k : Wp p e below s K N Q T (mkF m nx Ls (.int (x + y) :: st))) : Wp p e below s K N Q T (mkF m pc Ls (.int y :: .int x :: st)) := by
  obtain ⟨d, rfl⟩ := hd; exact Wp.go (fun t kk => XS.iadd X.here hx rfl (hb hby d) rfl kk) k
theorem w_isub (X : Stand p l e R s m args below meth c T locs cells slots) (hx : p.tables.exec = Jvm.exec) (hby : c.code = bs) {x y : Int32} (hd : In bs pc (.isub) 1 nx) (k : Wp p e below s K N Q T (mkF m nx Ls (.int (x - y) :: st))) : Wp p e below s K N Q T (mkF m pc Ls (.int y :: .int x :: st)) := by
  obtain ⟨d, rfl⟩ := hd; exact Wp.go (fun t kk => XS.isub X.here hx rfl (hb hby d) rfl kk) k
theorem w_iand (X : Stand p l e R s m args below meth c T locs cells slots) (hx : p.tables.exec = Jvm.exec) (hby : c.code = bs) {x y : Int32} (hd : In bs pc (.iand) 1 nx) (k : Wp p e below s K N Q T (mkF m nx Ls (.int (x &&& y) :: st))) : Wp p e below s K N Q T (mkF m pc Ls (.int y :: .int x :: st)) := by
  obtain ⟨d, rfl⟩ := hd; exact Wp.go (fun t kk => XS.iand X.here hx rfl (hb hby d) rfl kk) k
theorem w_imul (X : Stand p l e R s m args below meth c T locs cells slots) (hx : p.tables.exec = Jvm.exec) (hby : c.code = bs) {x y : Int32} (hd : In bs pc (.imul) 1 nx) (k : Wp p e below s K N Q T (mkF m nx Ls (.int (x * y) :: st))) : Wp p e below s K N Q T (mkF m pc Ls (.int y :: .int x :: st)) := by
  obtain ⟨d, rfl⟩ := hd; exact Wp.go (fun t kk => XS.imul X.here hx rfl (hb hby d) rfl kk) k
theorem w_ior (X : Stand p l e R s m args below meth c T locs cells slots) (hx : p.tables.exec = Jvm.exec) (hby : c.code = bs) {x y : Int32} (hd : In bs pc (.ior) 1 nx) (k : Wp p e below s K N Q T (mkF m nx Ls (.int (x ||| y) :: st))) : Wp p e below s K N Q T (mkF m pc Ls (.int y :: .int x :: st)) := by
  obtain ⟨d, rfl⟩ := hd; exact Wp.go (fun t kk => XS.ior X.here hx rfl (hb hby d) rfl kk) k
theorem w_ixor (X : Stand p l e R s m args below meth c T locs cells slots) (hx : p.tables.exec = Jvm.exec) (hby : c.code = bs) {x y : Int32} (hd : In bs pc (.ixor) 1 nx) (k : Wp p e below s K N Q T (mkF m nx Ls (.int (x ^^^ y) :: st))) : Wp p e below s K N Q T (mkF m pc Ls (.int y :: .int x :: st)) := by
  obtain ⟨d, rfl⟩ := hd; exact Wp.go (fun t kk => XS.ixor X.here hx rfl (hb hby d) rfl kk) k
theorem w_ishl (X : Stand p l e R s m args below meth c T locs cells slots) (hx : p.tables.exec = Jvm.exec) (hby : c.code = bs) {x y : Int32} (hd : In bs pc (.ishl) 1 nx) (k : Wp p e below s K N Q T (mkF m nx Ls (.int (x <<< (y &&& 31)) :: st))) : Wp p e below s K N Q T (mkF m pc Ls (.int y :: .int x :: st)) := by
  obtain ⟨d, rfl⟩ := hd; exact Wp.go (fun t kk => XS.ishl X.here hx rfl (hb hby d) rfl kk) k
theorem w_ishr (X : Stand p l e R s m args below meth c T locs cells slots) (hx : p.tables.exec = Jvm.exec) (hby : c.code = bs) {x y : Int32} (hd : In bs pc (.ishr) 1 nx) (k : Wp p e below s K N Q T (mkF m nx Ls (.int (x >>> (y &&& 31)) :: st))) : Wp p e below s K N Q T (mkF m pc Ls (.int y :: .int x :: st)) := by
  obtain ⟨d, rfl⟩ := hd; exact Wp.go (fun t kk => XS.ishr X.here hx rfl (hb hby d) rfl kk) k
theorem w_iushr (X : Stand p l e R s m args below meth c T locs cells slots) (hx : p.tables.exec = Jvm.exec) (hby : c.code = bs) {x y : Int32} (hd : In bs pc (.iushr) 1 nx) (k : Wp p e below s K N Q T (mkF m nx Ls (.int ((x.toUInt32 >>> (y &&& 31).toUInt32).toInt32) :: st))) : Wp p e below s K N Q T (mkF m pc Ls (.int y :: .int x :: st)) := by
  obtain ⟨d, rfl⟩ := hd; exact Wp.go (fun t kk => XS.iushr X.here hx rfl (hb hby d) rfl kk) k
theorem w_ladd (X : Stand p l e R s m args below meth c T locs cells slots) (hx : p.tables.exec = Jvm.exec) (hby : c.code = bs) {x y : Int64} (hd : In bs pc (.ladd) 1 nx) (k : Wp p e below s K N Q T (mkF m nx Ls (.long (x + y) :: st))) : Wp p e below s K N Q T (mkF m pc Ls (.long y :: .long x :: st)) := by
  obtain ⟨d, rfl⟩ := hd; exact Wp.go (fun t kk => XS.ladd X.here hx rfl (hb hby d) rfl kk) k
theorem w_lsub (X : Stand p l e R s m args below meth c T locs cells slots) (hx : p.tables.exec = Jvm.exec) (hby : c.code = bs) {x y : Int64} (hd : In bs pc (.lsub) 1 nx) (k : Wp p e below s K N Q T (mkF m nx Ls (.long (x - y) :: st))) : Wp p e below s K N Q T (mkF m pc Ls (.long y :: .long x :: st)) := by
  obtain ⟨d, rfl⟩ := hd; exact Wp.go (fun t kk => XS.lsub X.here hx rfl (hb hby d) rfl kk) k
theorem w_land (X : Stand p l e R s m args below meth c T locs cells slots) (hx : p.tables.exec = Jvm.exec) (hby : c.code = bs) {x y : Int64} (hd : In bs pc (.land) 1 nx) (k : Wp p e below s K N Q T (mkF m nx Ls (.long (x &&& y) :: st))) : Wp p e below s K N Q T (mkF m pc Ls (.long y :: .long x :: st)) := by
  obtain ⟨d, rfl⟩ := hd; exact Wp.go (fun t kk => XS.land X.here hx rfl (hb hby d) rfl kk) k
theorem w_lmul (X : Stand p l e R s m args below meth c T locs cells slots) (hx : p.tables.exec = Jvm.exec) (hby : c.code = bs) {x y : Int64} (hd : In bs pc (.lmul) 1 nx) (k : Wp p e below s K N Q T (mkF m nx Ls (.long (x * y) :: st))) : Wp p e below s K N Q T (mkF m pc Ls (.long y :: .long x :: st)) := by
  obtain ⟨d, rfl⟩ := hd; exact Wp.go (fun t kk => XS.lmul X.here hx rfl (hb hby d) rfl kk) k
theorem w_lor (X : Stand p l e R s m args below meth c T locs cells slots) (hx : p.tables.exec = Jvm.exec) (hby : c.code = bs) {x y : Int64} (hd : In bs pc (.lor) 1 nx) (k : Wp p e below s K N Q T (mkF m nx Ls (.long (x ||| y) :: st))) : Wp p e below s K N Q T (mkF m pc Ls (.long y :: .long x :: st)) := by
  obtain ⟨d, rfl⟩ := hd; exact Wp.go (fun t kk => XS.lor X.here hx rfl (hb hby d) rfl kk) k
theorem w_lxor (X : Stand p l e R s m args below meth c T locs cells slots) (hx : p.tables.exec = Jvm.exec) (hby : c.code = bs) {x y : Int64} (hd : In bs pc (.lxor) 1 nx) (k : Wp p e below s K N Q T (mkF m nx Ls (.long (x ^^^ y) :: st))) : Wp p e below s K N Q T (mkF m pc Ls (.long y :: .long x :: st)) := by
  obtain ⟨d, rfl⟩ := hd; exact Wp.go (fun t kk => XS.lxor X.here hx rfl (hb hby d) rfl kk) k
theorem w_lshl (X : Stand p l e R s m args below meth c T locs cells slots) (hx : p.tables.exec = Jvm.exec) (hby : c.code = bs) {x : Int64} {y : Int32} (hd : In bs pc (.lshl) 1 nx) (k : Wp p e below s K N Q T (mkF m nx Ls (.long (x <<< (y &&& 0x3f).toInt64) :: st))) : Wp p e below s K N Q T (mkF m pc Ls (.int y :: .long x :: st)) := by
  obtain ⟨d, rfl⟩ := hd; exact Wp.go (fun t kk => XS.lshl X.here hx rfl (hb hby d) rfl kk) k
theorem w_lshr (X : Stand p l e R s m args below meth c T locs cells slots) (hx : p.tables.exec = Jvm.exec) (hby : c.code = bs) {x : Int64} {y : Int32} (hd : In bs pc (.lshr) 1 nx) (k : Wp p e below s K N Q T (mkF m nx Ls (.long (x >>> (y &&& 0x3f).toInt64) :: st))) : Wp p e below s K N Q T (mkF m pc Ls (.int y :: .long x :: st)) := by
  obtain ⟨d, rfl⟩ := hd; exact Wp.go (fun t kk => XS.lshr X.here hx rfl (hb hby d) rfl kk) k
theorem w_lushr (X : Stand p l e R s m args below meth c T locs cells slots) (hx : p.tables.exec = Jvm.exec) (hby : c.code = bs) {x : Int64} {y : Int32} (hd : In bs pc (.lushr) 1 nx) (k : Wp p e below s K N Q T (mkF m nx Ls (.long ((x.toUInt64 >>> (y &&& 0x3f).toInt64.toUInt64).toInt64) :: st))) : Wp p e below s K N Q T (mkF m pc Ls (.int y :: .long x :: st)) := by
  obtain ⟨d, rfl⟩ := hd; exact Wp.go (fun t kk => XS.lushr X.here hx rfl (hb hby d) rfl kk) k
theorem w_i2b (X : Stand p l e R s m args below meth c T locs cells slots) (hx : p.tables.exec = Jvm.exec) (hby : c.code = bs) {x : Int32} (hd : In bs pc (.i2b) 1 nx) (k : Wp p e below s K N Q T (mkF m nx Ls (.int (x.toInt8.toInt32) :: st))) : Wp p e below s K N Q T (mkF m pc Ls (.int x :: st)) := by
  obtain ⟨d, rfl⟩ := hd; exact Wp.go (fun t kk => XS.i2b X.here hx rfl (hb hby d) rfl kk) k
theorem w_i2c (X : Stand p l e R s m args below meth c T locs cells slots) (hx : p.tables.exec = Jvm.exec) (hby : c.code = bs) {x : Int32} (hd : In bs pc (.i2c) 1 nx) (k : Wp p e below s K N Q T (mkF m nx Ls (.int (x.toUInt32.toUInt16.toUInt32.toInt32) :: st))) : Wp p e below s K N Q T (mkF m pc Ls (.int x :: st)) := by
  obtain ⟨d, rfl⟩ := hd; exact Wp.go (fun t kk => XS.i2c X.here hx rfl (hb hby d) rfl kk) k
theorem w_i2s (X : Stand p l e R s m args below meth c T locs cells slots) (hx : p.tables.exec = Jvm.exec) (hby : c.code = bs) {x : Int32} (hd : In bs pc (.i2s) 1 nx) (k : Wp p e below s K N Q T (mkF m nx Ls (.int (x.toInt16.toInt32) :: st))) : Wp p e below s K N Q T (mkF m pc Ls (.int x :: st)) := by
  obtain ⟨d, rfl⟩ := hd; exact Wp.go (fun t kk => XS.i2s X.here hx rfl (hb hby d) rfl kk) k
theorem w_ineg (X : Stand p l e R s m args below meth c T locs cells slots) (hx : p.tables.exec = Jvm.exec) (hby : c.code = bs) {x : Int32} (hd : In bs pc (.ineg) 1 nx) (k : Wp p e below s K N Q T (mkF m nx Ls (.int (-x) :: st))) : Wp p e below s K N Q T (mkF m pc Ls (.int x :: st)) := by
  obtain ⟨d, rfl⟩ := hd; exact Wp.go (fun t kk => XS.ineg X.here hx rfl (hb hby d) rfl kk) k
theorem w_i2l (X : Stand p l e R s m args below meth c T locs cells slots) (hx : p.tables.exec = Jvm.exec) (hby : c.code = bs) {x : Int32} (hd : In bs pc (.i2l) 1 nx) (k : Wp p e below s K N Q T (mkF m nx Ls (.long x.toInt64 :: st))) : Wp p e below s K N Q T (mkF m pc Ls (.int x :: st)) := by
  obtain ⟨d, rfl⟩ := hd; exact Wp.go (fun t kk => XS.i2l X.here hx rfl (hb hby d) rfl kk) k
theorem w_l2i (X : Stand p l e R s m args below meth c T locs cells slots) (hx : p.tables.exec = Jvm.exec) (hby : c.code = bs) {x : Int64} (hd : In bs pc (.l2i) 1 nx) (k : Wp p e below s K N Q T (mkF m nx Ls (.int x.toInt32 :: st))) : Wp p e below s K N Q T (mkF m pc Ls (.long x :: st)) := by
  obtain ⟨d, rfl⟩ := hd; exact Wp.go (fun t kk => XS.l2i X.here hx rfl (hb hby d) rfl kk) k
theorem w_lneg (X : Stand p l e R s m args below meth c T locs cells slots) (hx : p.tables.exec = Jvm.exec) (hby : c.code = bs) {x : Int64} (hd : In bs pc (.lneg) 1 nx) (k : Wp p e below s K N Q T (mkF m nx Ls (.long (-x) :: st))) : Wp p e below s K N Q T (mkF m pc Ls (.long x :: st)) := by
  obtain ⟨d, rfl⟩ := hd; exact Wp.go (fun t kk => XS.lneg X.here hx rfl (hb hby d) rfl kk) k
theorem w_idiv (X : Stand p l e R s m args below meth c T locs cells slots) (hx : p.tables.exec = Jvm.exec) (hby : c.code = bs) {x y : Int32} (hd : In bs pc (.idiv) 1 nx) (hy : y ≠ 0) (k : Wp p e below s K N Q T (mkF m nx Ls (.int (x / y) :: st))) : Wp p e below s K N Q T (mkF m pc Ls (.int y :: .int x :: st)) := by
  obtain ⟨d, rfl⟩ := hd; exact Wp.go (fun t kk => XS.idiv X.here hx rfl (hb hby d) rfl hy kk) k
theorem w_irem (X : Stand p l e R s m args below meth c T locs cells slots) (hx : p.tables.exec = Jvm.exec) (hby : c.code = bs) {x y : Int32} (hd : In bs pc .irem 1 nx) (hy : y ≠ 0) (k : Wp p e below s K N Q T (mkF m nx Ls (.int (x % y) :: st))) : Wp p e below s K N Q T (mkF m pc Ls (.int y :: .int x :: st)) := by
  obtain ⟨d, rfl⟩ := hd; exact Wp.go (fun t kk => iremM X hx rfl (hb hby d) rfl hy kk) k
theorem w_ldiv (X : Stand p l e R s m args below meth c T locs cells slots) (hx : p.tables.exec = Jvm.exec) (hby : c.code = bs) {x y : Int64} (hd : In bs pc (.ldiv) 1 nx) (hy : y ≠ 0) (k : Wp p e below s K N Q T (mkF m nx Ls (.long (x / y) :: st))) : Wp p e below s K N Q T (mkF m pc Ls (.long y :: .long x :: st)) := by
  obtain ⟨d, rfl⟩ := hd; exact Wp.go (fun t kk => XS.ldiv X.here hx rfl (hb hby d) rfl hy kk) k
theorem w_lrem (X : Stand p l e R s m args below meth c T locs cells slots) (hx : p.tables.exec = Jvm.exec) (hby : c.code = bs) {x y : Int64} (hd : In bs pc .lrem 1 nx) (hy : y ≠ 0) (k : Wp p e below s K N Q T (mkF m nx Ls (.long (x % y) :: st))) : Wp p e below s K N Q T (mkF m pc Ls (.long y :: .long x :: st)) := by
  obtain ⟨d, rfl⟩ := hd; refine Wp.go (fun t kk => XS.lrem X.here hx rfl (hb hby d) rfl hy kk) ?_; rw [lrem_mod]; exact k
theorem w_aconst_null (X : Stand p l e R s m args below meth c T locs cells slots) (hx : p.tables.exec = Jvm.exec) (hby : c.code = bs)  (hd : In bs pc (.aconst_null) 1 nx) (k : Wp p e below s K N Q T (mkF m nx Ls (.null :: st))) : Wp p e below s K N Q T (mkF m pc Ls (st)) := by
  obtain ⟨d, rfl⟩ := hd; exact Wp.go (fun t kk => XS.aconstNull X.here hx rfl (hb hby d) kk) k
theorem w_dup (X : Stand p l e R s m args below meth c T locs cells slots) (hx : p.tables.exec = Jvm.exec) (hby : c.code = bs) {x : Value} (hd : In bs pc (.dup) 1 nx) (hc : x.category = 1) (k : Wp p e below s K N Q T (mkF m nx Ls (x :: x :: st))) : Wp p e below s K N Q T (mkF m pc Ls (x :: st)) := by
  obtain ⟨d, rfl⟩ := hd; exact Wp.go (fun t kk => XS.dup X.here hx rfl (hb hby d) rfl hc kk) k
theorem w_dup_x1 (X : Stand p l e R s m args below meth c T locs cells slots) (hx : p.tables.exec = Jvm.exec) (hby : c.code = bs) {x y : Value} (hd : In bs pc (.dup_x1) 1 nx) (hc : x.category = 1) (hc2 : y.category = 1) (k : Wp p e below s K N Q T (mkF m nx Ls (x :: y :: x :: st))) : Wp p e below s K N Q T (mkF m pc Ls (x :: y :: st)) := by
  obtain ⟨d, rfl⟩ := hd; exact Wp.go (fun t kk => XS.dupX1 X.here hx rfl (hb hby d) rfl hc hc2 kk) k
theorem w_dup2 (X : Stand p l e R s m args below meth c T locs cells slots) (hx : p.tables.exec = Jvm.exec) (hby : c.code = bs) {x y : Value} (hd : In bs pc (.dup2) 1 nx) (hc : x.category = 1) (hc2 : y.category = 1) (k : Wp p e below s K N Q T (mkF m nx Ls (x :: y :: x :: y :: st))) : Wp p e below s K N Q T (mkF m pc Ls (x :: y :: st)) := by
  obtain ⟨d, rfl⟩ := hd; exact Wp.go (fun t kk => XT.dup2 X.here hx rfl (hb hby d) rfl hc hc2 kk) k
theorem w_dup2L (X : Stand p l e R s m args below meth c T locs cells slots) (hx : p.tables.exec = Jvm.exec) (hby : c.code = bs) {x : Int64} (hd : In bs pc (.dup2) 1 nx) (k : Wp p e below s K N Q T (mkF m nx Ls (.long x :: .long x :: st))) : Wp p e below s K N Q T (mkF m pc Ls (.long x :: st)) := by
  obtain ⟨d, rfl⟩ := hd; exact Wp.go (fun t kk => XT.dup2L X.here hx rfl (hb hby d) rfl kk) k
theorem w_pop (X : Stand p l e R s m args below meth c T locs cells slots) (hx : p.tables.exec = Jvm.exec) (hby : c.code = bs) {x : Value} (hd : In bs pc (.pop) 1 nx) (hc : x.category = 1) (k : Wp p e below s K N Q T (mkF m nx Ls (st))) : Wp p e below s K N Q T (mkF m pc Ls (x :: st)) := by
  obtain ⟨d, rfl⟩ := hd; exact Wp.go (fun t kk => XS.pop X.here hx rfl (hb hby d) rfl hc kk) k
theorem w_iconst (X : Stand p l e R s m args below meth c T locs cells slots) (hx : p.tables.exec = Jvm.exec) (hby : c.code = bs) {i : Int} (v : Int32) (hd : In bs pc (.iconst i) 1 nx) (hv : Int32.ofInt i = v) (k : Wp p e below s K N Q T (mkF m nx Ls (.int v :: st))) : Wp p e below s K N Q T (mkF m pc Ls (st)) := by
  obtain ⟨d, rfl⟩ := hd; exact Wp.go (fun t kk => XT.iconstV X.here hx rfl v (hb hby d) hv kk) k
theorem w_bipush (X : Stand p l e R s m args below meth c T locs cells slots) (hx : p.tables.exec = Jvm.exec) (hby : c.code = bs) {i : Int} (v : Int32) (hd : In bs pc (.bipush i) 2 nx) (hv : (Int8.ofInt i).toInt32 = v) (k : Wp p e below s K N Q T (mkF m nx Ls (.int v :: st))) : Wp p e below s K N Q T (mkF m pc Ls (st)) := by
  obtain ⟨d, rfl⟩ := hd; exact Wp.go (fun t kk => XT.bipushV X.here hx rfl v (hb hby d) hv kk) k
theorem w_sipush (X : Stand p l e R s m args below meth c T locs cells slots) (hx : p.tables.exec = Jvm.exec) (hby : c.code = bs) {i : Int} (v : Int32) (hd : In bs pc (.sipush i) 3 nx) (hv : (Int16.ofInt i).toInt32 = v) (k : Wp p e below s K N Q T (mkF m nx Ls (.int v :: st))) : Wp p e below s K N Q T (mkF m pc Ls (st)) := by
  obtain ⟨d, rfl⟩ := hd; exact Wp.go (fun t kk => XT.sipushV X.here hx rfl v (hb hby d) hv kk) k
theorem w_lconst (X : Stand p l e R s m args below meth c T locs cells slots) (hx : p.tables.exec = Jvm.exec) (hby : c.code = bs) {i : Fin 2} (v : Int64) (hd : In bs pc (.lconst i) 1 nx) (hv : Int64.ofNat i = v) (k : Wp p e below s K N Q T (mkF m nx Ls (.long v :: st))) : Wp p e below s K N Q T (mkF m pc Ls (st)) := by
  obtain ⟨d, rfl⟩ := hd; exact Wp.go (fun t kk => XT.lconstV X.here hx rfl v (hb hby d) hv kk) k
theorem w_iloadN (X : Stand p l e R s m args below meth c T locs cells slots) (hx : p.tables.exec = Jvm.exec) (hby : c.code = bs) {i : Fin 4} {v : Int32} (hd : In bs pc (.iload_n i) 1 nx) (hl : Ls[i.val]? = some (.val (.int v))) (k : Wp p e below s K N Q T (mkF m nx Ls (.int v :: st))) : Wp p e below s K N Q T (mkF m pc Ls (st)) := by
  obtain ⟨d, rfl⟩ := hd; exact Wp.go (fun t kk => XS.iloadN X.here hx rfl (hb hby d) hl kk) k
theorem w_lloadN (X : Stand p l e R s m args below meth c T locs cells slots) (hx : p.tables.exec = Jvm.exec) (hby : c.code = bs) {i : Fin 4} {v : Int64} (hd : In bs pc (.lload_n i) 1 nx) (hl : Ls[i.val]? = some (.val (.long v))) (k : Wp p e below s K N Q T (mkF m nx Ls (.long v :: st))) : Wp p e below s K N Q T (mkF m pc Ls (st)) := by
  obtain ⟨d, rfl⟩ := hd; exact Wp.go (fun t kk => XS.lloadN X.here hx rfl (hb hby d) hl kk) k
theorem w_aloadN (X : Stand p l e R s m args below meth c T locs cells slots) (hx : p.tables.exec = Jvm.exec) (hby : c.code = bs) {i : Fin 4} {v : Value} (hd : In bs pc (.aload_n i) 1 nx) (hl : Ls[i.val]? = some (.val v)) (hv : v.isRef = true) (k : Wp p e below s K N Q T (mkF m nx Ls (v :: st))) : Wp p e below s K N Q T (mkF m pc Ls (st)) := by
  obtain ⟨d, rfl⟩ := hd; exact Wp.go (fun t kk => XS.aloadN X.here hx rfl (hb hby d) hl hv kk) k
theorem w_istoreN (X : Stand p l e R s m args below meth c T locs cells slots) (hx : p.tables.exec = Jvm.exec) (hby : c.code = bs) {i : Fin 4} {v : Int32} (l' : Array Slot) (hd : In bs pc (.istore_n i) 1 nx) (hl : storeLocals Ls i.val (.int v) = some l') (k : Wp p e below s K N Q T (mkF m nx l' (st))) : Wp p e below s K N Q T (mkF m pc Ls (.int v :: st)) := by
  obtain ⟨d, rfl⟩ := hd; exact Wp.go (fun t kk => XS.istoreN X.here hx rfl (hb hby d) rfl hl kk) k
theorem w_lstoreN (X : Stand p l e R s m args below meth c T locs cells slots) (hx : p.tables.exec = Jvm.exec) (hby : c.code = bs) {i : Fin 4} {v : Int64} (l' : Array Slot) (hd : In bs pc (.lstore_n i) 1 nx) (hl : storeLocals Ls i.val (.long v) = some l') (k : Wp p e below s K N Q T (mkF m nx l' (st))) : Wp p e below s K N Q T (mkF m pc Ls (.long v :: st)) := by
  obtain ⟨d, rfl⟩ := hd; exact Wp.go (fun t kk => XS.lstoreN X.here hx rfl (hb hby d) rfl hl kk) k
theorem w_astoreN (X : Stand p l e R s m args below meth c T locs cells slots) (hx : p.tables.exec = Jvm.exec) (hby : c.code = bs) {i : Fin 4} {v : Value} (l' : Array Slot) (hd : In bs pc (.astore_n i) 1 nx) (hv : v.isRef = true) (hl : storeLocals Ls i.val v = some l') (k : Wp p e below s K N Q T (mkF m nx l' (st))) : Wp p e below s K N Q T (mkF m pc Ls (v :: st)) := by
  obtain ⟨d, rfl⟩ := hd; exact Wp.go (fun t kk => XS.astoreN X.here hx rfl (hb hby d) rfl hv hl kk) k
theorem w_iload (X : Stand p l e R s m args below meth c T locs cells slots) (hx : p.tables.exec = Jvm.exec) (hby : c.code = bs) {i : Nat} {v : Int32} (hd : In bs pc (.iload i) 2 nx) (hl : Ls[i]? = some (.val (.int v))) (k : Wp p e below s K N Q T (mkF m nx Ls (.int v :: st))) : Wp p e below s K N Q T (mkF m pc Ls (st)) := by
  obtain ⟨d, rfl⟩ := hd; exact Wp.go (fun t kk => XS.iload X.here hx rfl (hb hby d) hl kk) k
theorem w_lload (X : Stand p l e R s m args below meth c T locs cells slots) (hx : p.tables.exec = Jvm.exec) (hby : c.code = bs) {i : Nat} {v : Int64} (hd : In bs pc (.lload i) 2 nx) (hl : Ls[i]? = some (.val (.long v))) (k : Wp p e below s K N Q T (mkF m nx Ls (.long v :: st))) : Wp p e below s K N Q T (mkF m pc Ls (st)) := by
  obtain ⟨d, rfl⟩ := hd; exact Wp.go (fun t kk => XS.lload X.here hx rfl (hb hby d) hl kk) k
theorem w_aload (X : Stand p l e R s m args below meth c T locs cells slots) (hx : p.tables.exec = Jvm.exec) (hby : c.code = bs) {i : Nat} {v : Value} (hd : In bs pc (.aload i) 2 nx) (hl : Ls[i]? = some (.val v)) (hv : v.isRef = true) (k : Wp p e below s K N Q T (mkF m nx Ls (v :: st))) : Wp p e below s K N Q T (mkF m pc Ls (st)) := by
  obtain ⟨d, rfl⟩ := hd; exact Wp.go (fun t kk => XS.aload X.here hx rfl (hb hby d) hl hv kk) k
theorem w_istore (X : Stand p l e R s m args below meth c T locs cells slots) (hx : p.tables.exec = Jvm.exec) (hby : c.code = bs) {i : Nat} {v : Int32} (l' : Array Slot) (hd : In bs pc (.istore i) 2 nx) (hl : storeLocals Ls i (.int v) = some l') (k : Wp p e below s K N Q T (mkF m nx l' (st))) : Wp p e below s K N Q T (mkF m pc Ls (.int v :: st)) := by
  obtain ⟨d, rfl⟩ := hd; exact Wp.go (fun t kk => XS.istore X.here hx rfl (hb hby d) rfl hl kk) k
theorem w_lstore (X : Stand p l e R s m args below meth c T locs cells slots) (hx : p.tables.exec = Jvm.exec) (hby : c.code = bs) {i : Nat} {v : Int64} (l' : Array Slot) (hd : In bs pc (.lstore i) 2 nx) (hl : storeLocals Ls i (.long v) = some l') (k : Wp p e below s K N Q T (mkF m nx l' (st))) : Wp p e below s K N Q T (mkF m pc Ls (.long v :: st)) := by
  obtain ⟨d, rfl⟩ := hd; exact Wp.go (fun t kk => XS.lstore X.here hx rfl (hb hby d) rfl hl kk) k
theorem w_astore (X : Stand p l e R s m args below meth c T locs cells slots) (hx : p.tables.exec = Jvm.exec) (hby : c.code = bs) {i : Nat} {v : Value} (l' : Array Slot) (hd : In bs pc (.astore i) 2 nx) (hv : v.isRef = true) (hl : storeLocals Ls i v = some l') (k : Wp p e below s K N Q T (mkF m nx l' (st))) : Wp p e below s K N Q T (mkF m pc Ls (v :: st)) := by
  obtain ⟨d, rfl⟩ := hd; exact Wp.go (fun t kk => XS.astore X.here hx rfl (hb hby d) rfl hv hl kk) k
theorem w_iinc (X : Stand p l e R s m args below meth c T locs cells slots) (hx : p.tables.exec = Jvm.exec) (hby : c.code = bs) {i : Nat} {cst : Int} {x : Int32} (v : Int32) (l' : Array Slot) (hd : In bs pc (.iinc i cst) 3 nx) (hv : Int32.ofInt cst = v) (hl : Ls[i]? = some (.val (.int x))) (hl' : storeLocals Ls i (.int (x + v)) = some l') (k : Wp p e below s K N Q T (mkF m nx l' st)) : Wp p e below s K N Q T (mkF m pc Ls st) := by
  obtain ⟨d, rfl⟩ := hd; exact Wp.go (fun t kk => XT.iincV X.here hx rfl v (hb hby d) hv hl hl' kk) k
theorem w_goto (X : Stand p l e R s m args below meth c T locs cells slots) (hx : p.tables.exec = Jvm.exec) (hby : c.code = bs) (hd : Jm bs pc (.goto o) o nx tg) (k : Wp p e below s K N Q T (mkF m tg Ls st)) : Wp p e below s K N Q T (mkF m pc Ls st) := by
  obtain ⟨d, -, q1, q2⟩ := hd; exact Wp.go (fun t kk => XS.goto X.here hx rfl rfl (hb hby d) q1 q2 kk) k
theorem f_icmp_eq (X : Stand p l e R s m args below meth c T locs cells slots) (hx : p.tables.exec = Jvm.exec) (hby : c.code = bs) {x y : Int32} (hd : Jm bs pc (.if_icmp .eq o) o nx tg) (kt : x = y → Wp p e below s K N Q T (mkF m tg Ls st)) (kf : ¬ x = y → Wp p e below s K N Q T (mkF m nx Ls st)) : Wp p e below s K N Q T (mkF m pc Ls (.int y :: .int x :: st)) := by
  obtain ⟨d, rfl, q1, q2⟩ := hd
  by_cases q : x = y
  · exact Wp.go (fun t kk => XS.icmpYes X.here hx rfl rfl (hb hby d) rfl (XT.ii_eq_t q) q1 q2 kk) (kt q)
  · exact Wp.go (fun t kk => XS.icmpNo X.here hx rfl (hb hby d) rfl (XT.ii_eq_f q) kk) (kf q)
theorem f_if_eq (X : Stand p l e R s m args below meth c T locs cells slots) (hx : p.tables.exec = Jvm.exec) (hby : c.code = bs) {x : Int32} (hd : Jm bs pc (.ifCond .eq o) o nx tg) (kt : x = 0 → Wp p e below s K N Q T (mkF m tg Ls st)) (kf : ¬ x = 0 → Wp p e below s K N Q T (mkF m nx Ls st)) : Wp p e below s K N Q T (mkF m pc Ls (.int x :: st)) := by
  obtain ⟨d, rfl, q1, q2⟩ := hd
  by_cases q : x = 0
  · exact Wp.go (fun t kk => XS.ifYes X.here hx rfl rfl (hb hby d) rfl (XT.i0_eq_t q) q1 q2 kk) (kt q)
  · exact Wp.go (fun t kk => XS.ifNo X.here hx rfl (hb hby d) rfl (XT.i0_eq_f q) kk) (kf q)
theorem f_lcmp_eq (X : Stand p l e R s m args below meth c T locs cells slots) (hx : p.tables.exec = Jvm.exec) (hby : c.code = bs) {x y : Int64} {n1 : Nat} (hc : In bs pc .lcmp 1 n1) (hd : Jm bs n1 (.ifCond .eq o) o nx tg) (kt : x = y → Wp p e below s K N Q T (mkF m tg Ls st)) (kf : ¬ x = y → Wp p e below s K N Q T (mkF m nx Ls st)) : Wp p e below s K N Q T (mkF m pc Ls (.long y :: .long x :: st)) := by
  obtain ⟨d1, rfl⟩ := hc; obtain ⟨d, rfl, q1, q2⟩ := hd
  refine Wp.go (fun t kk => XT.lcmp X.here hx rfl (hb hby d1) rfl kk) ?_
  by_cases q : x = y
  · exact Wp.go (fun t kk => XS.ifYes X.here hx rfl rfl (hb hby d) rfl (XT.ll_eq_t q) q1 q2 kk) (kt q)
  · exact Wp.go (fun t kk => XS.ifNo X.here hx rfl (hb hby d) rfl (XT.ll_eq_f q) kk) (kf q)
theorem f_icmp_ne (X : Stand p l e R s m args below meth c T locs cells slots) (hx : p.tables.exec = Jvm.exec) (hby : c.code = bs) {x y : Int32} (hd : Jm bs pc (.if_icmp .ne o) o nx tg) (kt : ¬ x = y → Wp p e below s K N Q T (mkF m tg Ls st)) (kf : x = y → Wp p e below s K N Q T (mkF m nx Ls st)) : Wp p e below s K N Q T (mkF m pc Ls (.int y :: .int x :: st)) := by
  obtain ⟨d, rfl, q1, q2⟩ := hd
  by_cases q : x = y
  · exact Wp.go (fun t kk => XS.icmpNo X.here hx rfl (hb hby d) rfl (XT.ii_ne_f q) kk) (kf q)
  · exact Wp.go (fun t kk => XS.icmpYes X.here hx rfl rfl (hb hby d) rfl (XT.ii_ne_t q) q1 q2 kk) (kt q)
theorem f_if_ne (X : Stand p l e R s m args below meth c T locs cells slots) (hx : p.tables.exec = Jvm.exec) (hby : c.code = bs) {x : Int32} (hd : Jm bs pc (.ifCond .ne o) o nx tg) (kt : ¬ x = 0 → Wp p e below s K N Q T (mkF m tg Ls st)) (kf : x = 0 → Wp p e below s K N Q T (mkF m nx Ls st)) : Wp p e below s K N Q T (mkF m pc Ls (.int x :: st)) := by
  obtain ⟨d, rfl, q1, q2⟩ := hd
  by_cases q : x = 0
  · exact Wp.go (fun t kk => XS.ifNo X.here hx rfl (hb hby d) rfl (XT.i0_ne_f q) kk) (kf q)
  · exact Wp.go (fun t kk => XS.ifYes X.here hx rfl rfl (hb hby d) rfl (XT.i0_ne_t q) q1 q2 kk) (kt q)
theorem f_lcmp_ne (X : Stand p l e R s m args below meth c T locs cells slots) (hx : p.tables.exec = Jvm.exec) (hby : c.code = bs) {x y : Int64} {n1 : Nat} (hc : In bs pc .lcmp 1 n1) (hd : Jm bs n1 (.ifCond .ne o) o nx tg) (kt : ¬ x = y → Wp p e below s K N Q T (mkF m tg Ls st)) (kf : x = y → Wp p e below s K N Q T (mkF m nx Ls st)) : Wp p e below s K N Q T (mkF m pc Ls (.long y :: .long x :: st)) := by
  obtain ⟨d1, rfl⟩ := hc; obtain ⟨d, rfl, q1, q2⟩ := hd
  refine Wp.go (fun t kk => XT.lcmp X.here hx rfl (hb hby d1) rfl kk) ?_
  by_cases q : x = y
  · exact Wp.go (fun t kk => XS.ifNo X.here hx rfl (hb hby d) rfl (XT.ll_ne_f q) kk) (kf q)
  · exact Wp.go (fun t kk => XS.ifYes X.here hx rfl rfl (hb hby d) rfl (XT.ll_ne_t q) q1 q2 kk) (kt q)
theorem f_icmp_lt (X : Stand p l e R s m args below meth c T locs cells slots) (hx : p.tables.exec = Jvm.exec) (hby : c.code = bs) {x y : Int32} (hd : Jm bs pc (.if_icmp .lt o) o nx tg) (kt : x < y → Wp p e below s K N Q T (mkF m tg Ls st)) (kf : ¬ x < y → Wp p e below s K N Q T (mkF m nx Ls st)) : Wp p e below s K N Q T (mkF m pc Ls (.int y :: .int x :: st)) := by
  obtain ⟨d, rfl, q1, q2⟩ := hd
  by_cases q : x < y
  · exact Wp.go (fun t kk => XS.icmpYes X.here hx rfl rfl (hb hby d) rfl (XT.ii_lt_t q) q1 q2 kk) (kt q)
  · exact Wp.go (fun t kk => XS.icmpNo X.here hx rfl (hb hby d) rfl (XT.ii_lt_f q) kk) (kf q)
theorem f_if_lt (X : Stand p l e R s m args below meth c T locs cells slots) (hx : p.tables.exec = Jvm.exec) (hby : c.code = bs) {x : Int32} (hd : Jm bs pc (.ifCond .lt o) o nx tg) (kt : x < 0 → Wp p e below s K N Q T (mkF m tg Ls st)) (kf : ¬ x < 0 → Wp p e below s K N Q T (mkF m nx Ls st)) : Wp p e below s K N Q T (mkF m pc Ls (.int x :: st)) := by
  obtain ⟨d, rfl, q1, q2⟩ := hd
  by_cases q : x < 0
  · exact Wp.go (fun t kk => XS.ifYes X.here hx rfl rfl (hb hby d) rfl (XT.i0_lt_t q) q1 q2 kk) (kt q)
  · exact Wp.go (fun t kk => XS.ifNo X.here hx rfl (hb hby d) rfl (XT.i0_lt_f q) kk) (kf q)
theorem f_lcmp_lt (X : Stand p l e R s m args below meth c T locs cells slots) (hx : p.tables.exec = Jvm.exec) (hby : c.code = bs) {x y : Int64} {n1 : Nat} (hc : In bs pc .lcmp 1 n1) (hd : Jm bs n1 (.ifCond .lt o) o nx tg) (kt : x < y → Wp p e below s K N Q T (mkF m tg Ls st)) (kf : ¬ x < y → Wp p e below s K N Q T (mkF m nx Ls st)) : Wp p e below s K N Q T (mkF m pc Ls (.long y :: .long x :: st)) := by
  obtain ⟨d1, rfl⟩ := hc; obtain ⟨d, rfl, q1, q2⟩ := hd
  refine Wp.go (fun t kk => XT.lcmp X.here hx rfl (hb hby d1) rfl kk) ?_
  by_cases q : x < y
  · exact Wp.go (fun t kk => XS.ifYes X.here hx rfl rfl (hb hby d) rfl (XT.ll_lt_t q) q1 q2 kk) (kt q)
  · exact Wp.go (fun t kk => XS.ifNo X.here hx rfl (hb hby d) rfl (XT.ll_lt_f q) kk) (kf q)
theorem f_icmp_ge (X : Stand p l e R s m args below meth c T locs cells slots) (hx : p.tables.exec = Jvm.exec) (hby : c.code = bs) {x y : Int32} (hd : Jm bs pc (.if_icmp .ge o) o nx tg) (kt : ¬ x < y → Wp p e below s K N Q T (mkF m tg Ls st)) (kf : x < y → Wp p e below s K N Q T (mkF m nx Ls st)) : Wp p e below s K N Q T (mkF m pc Ls (.int y :: .int x :: st)) := by
  obtain ⟨d, rfl, q1, q2⟩ := hd
  by_cases q : x < y
  · exact Wp.go (fun t kk => XS.icmpNo X.here hx rfl (hb hby d) rfl (XT.ii_ge_f q) kk) (kf q)
  · exact Wp.go (fun t kk => XS.icmpYes X.here hx rfl rfl (hb hby d) rfl (XT.ii_ge_t q) q1 q2 kk) (kt q)
theorem f_if_ge (X : Stand p l e R s m args below meth c T locs cells slots) (hx : p.tables.exec = Jvm.exec) (hby : c.code = bs) {x : Int32} (hd : Jm bs pc (.ifCond .ge o) o nx tg) (kt : ¬ x < 0 → Wp p e below s K N Q T (mkF m tg Ls st)) (kf : x < 0 → Wp p e below s K N Q T (mkF m nx Ls st)) : Wp p e below s K N Q T (mkF m pc Ls (.int x :: st)) := by
  obtain ⟨d, rfl, q1, q2⟩ := hd
  by_cases q : x < 0
  · exact Wp.go (fun t kk => XS.ifNo X.here hx rfl (hb hby d) rfl (XT.i0_ge_f q) kk) (kf q)
  · exact Wp.go (fun t kk => XS.ifYes X.here hx rfl rfl (hb hby d) rfl (XT.i0_ge_t q) q1 q2 kk) (kt q)
theorem f_lcmp_ge (X : Stand p l e R s m args below meth c T locs cells slots) (hx : p.tables.exec = Jvm.exec) (hby : c.code = bs) {x y : Int64} {n1 : Nat} (hc : In bs pc .lcmp 1 n1) (hd : Jm bs n1 (.ifCond .ge o) o nx tg) (kt : ¬ x < y → Wp p e below s K N Q T (mkF m tg Ls st)) (kf : x < y → Wp p e below s K N Q T (mkF m nx Ls st)) : Wp p e below s K N Q T (mkF m pc Ls (.long y :: .long x :: st)) := by
  obtain ⟨d1, rfl⟩ := hc; obtain ⟨d, rfl, q1, q2⟩ := hd
  refine Wp.go (fun t kk => XT.lcmp X.here hx rfl (hb hby d1) rfl kk) ?_
  by_cases q : x < y
  · exact Wp.go (fun t kk => XS.ifNo X.here hx rfl (hb hby d) rfl (XT.ll_ge_f q) kk) (kf q)
  · exact Wp.go (fun t kk => XS.ifYes X.here hx rfl rfl (hb hby d) rfl (XT.ll_ge_t q) q1 q2 kk) (kt q)
theorem f_icmp_gt (X : Stand p l e R s m args below meth c T locs cells slots) (hx : p.tables.exec = Jvm.exec) (hby : c.code = bs) {x y : Int32} (hd : Jm bs pc (.if_icmp .gt o) o nx tg) (kt : y < x → Wp p e below s K N Q T (mkF m tg Ls st)) (kf : ¬ y < x → Wp p e below s K N Q T (mkF m nx Ls st)) : Wp p e below s K N Q T (mkF m pc Ls (.int y :: .int x :: st)) := by
  obtain ⟨d, rfl, q1, q2⟩ := hd
  by_cases q : y < x
  · exact Wp.go (fun t kk => XS.icmpYes X.here hx rfl rfl (hb hby d) rfl (XT.ii_gt_t q) q1 q2 kk) (kt q)
  · exact Wp.go (fun t kk => XS.icmpNo X.here hx rfl (hb hby d) rfl (XT.ii_gt_f q) kk) (kf q)
theorem f_if_gt (X : Stand p l e R s m args below meth c T locs cells slots) (hx : p.tables.exec = Jvm.exec) (hby : c.code = bs) {x : Int32} (hd : Jm bs pc (.ifCond .gt o) o nx tg) (kt : 0 < x → Wp p e below s K N Q T (mkF m tg Ls st)) (kf : ¬ 0 < x → Wp p e below s K N Q T (mkF m nx Ls st)) : Wp p e below s K N Q T (mkF m pc Ls (.int x :: st)) := by
  obtain ⟨d, rfl, q1, q2⟩ := hd
  by_cases q : 0 < x
  · exact Wp.go (fun t kk => XS.ifYes X.here hx rfl rfl (hb hby d) rfl (XT.i0_gt_t q) q1 q2 kk) (kt q)
  · exact Wp.go (fun t kk => XS.ifNo X.here hx rfl (hb hby d) rfl (XT.i0_gt_f q) kk) (kf q)
theorem f_lcmp_gt (X : Stand p l e R s m args below meth c T locs cells slots) (hx : p.tables.exec = Jvm.exec) (hby : c.code = bs) {x y : Int64} {n1 : Nat} (hc : In bs pc .lcmp 1 n1) (hd : Jm bs n1 (.ifCond .gt o) o nx tg) (kt : y < x → Wp p e below s K N Q T (mkF m tg Ls st)) (kf : ¬ y < x → Wp p e below s K N Q T (mkF m nx Ls st)) : Wp p e below s K N Q T (mkF m pc Ls (.long y :: .long x :: st)) := by
  obtain ⟨d1, rfl⟩ := hc; obtain ⟨d, rfl, q1, q2⟩ := hd
  refine Wp.go (fun t kk => XT.lcmp X.here hx rfl (hb hby d1) rfl kk) ?_
  by_cases q : y < x
  · exact Wp.go (fun t kk => XS.ifYes X.here hx rfl rfl (hb hby d) rfl (XT.ll_gt_t q) q1 q2 kk) (kt q)
  · exact Wp.go (fun t kk => XS.ifNo X.here hx rfl (hb hby d) rfl (XT.ll_gt_f q) kk) (kf q)
theorem f_icmp_le (X : Stand p l e R s m args below meth c T locs cells slots) (hx : p.tables.exec = Jvm.exec) (hby : c.code = bs) {x y : Int32} (hd : Jm bs pc (.if_icmp .le o) o nx tg) (kt : ¬ y < x → Wp p e below s K N Q T (mkF m tg Ls st)) (kf : y < x → Wp p e below s K N Q T (mkF m nx Ls st)) : Wp p e below s K N Q T (mkF m pc Ls (.int y :: .int x :: st)) := by
  obtain ⟨d, rfl, q1, q2⟩ := hd
  by_cases q : y < x
  · exact Wp.go (fun t kk => XS.icmpNo X.here hx rfl (hb hby d) rfl (XT.ii_le_f q) kk) (kf q)
  · exact Wp.go (fun t kk => XS.icmpYes X.here hx rfl rfl (hb hby d) rfl (XT.ii_le_t q) q1 q2 kk) (kt q)
theorem f_if_le (X : Stand p l e R s m args below meth c T locs cells slots) (hx : p.tables.exec = Jvm.exec) (hby : c.code = bs) {x : Int32} (hd : Jm bs pc (.ifCond .le o) o nx tg) (kt : ¬ 0 < x → Wp p e below s K N Q T (mkF m tg Ls st)) (kf : 0 < x → Wp p e below s K N Q T (mkF m nx Ls st)) : Wp p e below s K N Q T (mkF m pc Ls (.int x :: st)) := by
  obtain ⟨d, rfl, q1, q2⟩ := hd
  by_cases q : 0 < x
  · exact Wp.go (fun t kk => XS.ifNo X.here hx rfl (hb hby d) rfl (XT.i0_le_f q) kk) (kf q)
  · exact Wp.go (fun t kk => XS.ifYes X.here hx rfl rfl (hb hby d) rfl (XT.i0_le_t q) q1 q2 kk) (kt q)
theorem f_lcmp_le (X : Stand p l e R s m args below meth c T locs cells slots) (hx : p.tables.exec = Jvm.exec) (hby : c.code = bs) {x y : Int64} {n1 : Nat} (hc : In bs pc .lcmp 1 n1) (hd : Jm bs n1 (.ifCond .le o) o nx tg) (kt : ¬ y < x → Wp p e below s K N Q T (mkF m tg Ls st)) (kf : y < x → Wp p e below s K N Q T (mkF m nx Ls st)) : Wp p e below s K N Q T (mkF m pc Ls (.long y :: .long x :: st)) := by
  obtain ⟨d1, rfl⟩ := hc; obtain ⟨d, rfl, q1, q2⟩ := hd
  refine Wp.go (fun t kk => XT.lcmp X.here hx rfl (hb hby d1) rfl kk) ?_
  by_cases q : y < x
  · exact Wp.go (fun t kk => XS.ifNo X.here hx rfl (hb hby d) rfl (XT.ll_le_f q) kk) (kf q)
  · exact Wp.go (fun t kk => XS.ifYes X.here hx rfl rfl (hb hby d) rfl (XT.ll_le_t q) q1 q2 kk) (kt q)
theorem f_acmp_eq (X : Stand p l e R s m args below meth c T locs cells slots) (hx : p.tables.exec = Jvm.exec) (hby : c.code = bs) {x y : Addr} (hd : Jm bs pc (.if_acmp .eq o) o nx tg) (kt : x = y → Wp p e below s K N Q T (mkF m tg Ls st)) (kf : ¬ x = y → Wp p e below s K N Q T (mkF m nx Ls st)) : Wp p e below s K N Q T (mkF m pc Ls (.ref y :: .ref x :: st)) := by
  obtain ⟨d, rfl, q1, q2⟩ := hd
  by_cases q : x = y
  · exact Wp.go (fun t kk => XT.acmpYes X.here hx rfl rfl (hb hby d) rfl rfl rfl (XT.aa_eq_t (congrArg Value.ref q)) q1 q2 kk) (kt q)
  · exact Wp.go (fun t kk => XT.acmpNo X.here hx rfl (hb hby d) rfl rfl rfl (XT.aa_eq_f (fun r => q (Value.ref.inj r))) kk) (kf q)
theorem f_acmpV_eq (X : Stand p l e R s m args below meth c T locs cells slots) (hx : p.tables.exec = Jvm.exec) (hby : c.code = bs) {x y : Value} (hx' : x.isRef = true) (hy' : y.isRef = true) (hd : Jm bs pc (.if_acmp .eq o) o nx tg) (kt : x = y → Wp p e below s K N Q T (mkF m tg Ls st)) (kf : ¬ x = y → Wp p e below s K N Q T (mkF m nx Ls st)) : Wp p e below s K N Q T (mkF m pc Ls (y :: x :: st)) := by
  obtain ⟨d, rfl, q1, q2⟩ := hd
  by_cases q : x = y
  · exact Wp.go (fun t kk => XT.acmpYes X.here hx rfl rfl (hb hby d) rfl hx' hy' (XT.aa_eq_t q) q1 q2 kk) (kt q)
  · exact Wp.go (fun t kk => XT.acmpNo X.here hx rfl (hb hby d) rfl hx' hy' (XT.aa_eq_f q) kk) (kf q)
theorem f_acmp_ne (X : Stand p l e R s m args below meth c T locs cells slots) (hx : p.tables.exec = Jvm.exec) (hby : c.code = bs) {x y : Addr} (hd : Jm bs pc (.if_acmp .ne o) o nx tg) (kt : ¬ x = y → Wp p e below s K N Q T (mkF m tg Ls st)) (kf : x = y → Wp p e below s K N Q T (mkF m nx Ls st)) : Wp p e below s K N Q T (mkF m pc Ls (.ref y :: .ref x :: st)) := by
  obtain ⟨d, rfl, q1, q2⟩ := hd
  by_cases q : x = y
  · exact Wp.go (fun t kk => XT.acmpNo X.here hx rfl (hb hby d) rfl rfl rfl (XT.aa_ne_f (congrArg Value.ref q)) kk) (kf q)
  · exact Wp.go (fun t kk => XT.acmpYes X.here hx rfl rfl (hb hby d) rfl rfl rfl (XT.aa_ne_t (fun r => q (Value.ref.inj r))) q1 q2 kk) (kt q)
theorem f_acmpV_ne (X : Stand p l e R s m args below meth c T locs cells slots) (hx : p.tables.exec = Jvm.exec) (hby : c.code = bs) {x y : Value} (hx' : x.isRef = true) (hy' : y.isRef = true) (hd : Jm bs pc (.if_acmp .ne o) o nx tg) (kt : ¬ x = y → Wp p e below s K N Q T (mkF m tg Ls st)) (kf : x = y → Wp p e below s K N Q T (mkF m nx Ls st)) : Wp p e below s K N Q T (mkF m pc Ls (y :: x :: st)) := by
  obtain ⟨d, rfl, q1, q2⟩ := hd
  by_cases q : x = y
  · exact Wp.go (fun t kk => XT.acmpNo X.here hx rfl (hb hby d) rfl hx' hy' (XT.aa_ne_f q) kk) (kf q)
  · exact Wp.go (fun t kk => XT.acmpYes X.here hx rfl rfl (hb hby d) rfl hx' hy' (XT.aa_ne_t q) q1 q2 kk) (kt q)
theorem w_lswHit (X : Stand p l e R s m args below meth c T locs cells slots) (hx : p.tables.exec = Jvm.exec) (hby : c.code = bs) {x : Int32} {df : Int} {ps : Array (Int × Int)} {len : Nat} {a off : Int} (hd : In bs pc (.lookupswitch df ps) len nx) (hs : (ps.toList.zip (ps.toList.drop 1)).all (fun (a, next) => a.1 < next.1) = true) (hf : ps.find? (·.1 == x.toInt) = some (a, off)) (ho : 0 ≤ (pc : Int) + off) (ht : ((pc : Int) + off).toNat = tg) (k : Wp p e below s K N Q T (mkF m tg Ls st)) : Wp p e below s K N Q T (mkF m pc Ls (.int x :: st)) := by
  obtain ⟨d, -⟩ := hd; subst ht; exact Wp.go (fun t kk => X.lookupswitchHit hx (g := mkF m pc Ls (.int x :: st)) rfl rfl (hb hby d) hs hf ho t kk) k
theorem w_lswMiss (X : Stand p l e R s m args below meth c T locs cells slots) (hx : p.tables.exec = Jvm.exec) (hby : c.code = bs) {x : Int32} {df : Int} {ps : Array (Int × Int)} {len : Nat} (hd : In bs pc (.lookupswitch df ps) len nx) (hs : (ps.toList.zip (ps.toList.drop 1)).all (fun (a, next) => a.1 < next.1) = true) (hf : ps.find? (·.1 == x.toInt) = none) (ho : 0 ≤ (pc : Int) + df) (ht : ((pc : Int) + df).toNat = tg) (k : Wp p e below s K N Q T (mkF m tg Ls st)) : Wp p e below s K N Q T (mkF m pc Ls (.int x :: st)) := by
  obtain ⟨d, -⟩ := hd; subst ht; exact Wp.go (fun t kk => X.lookupswitchMiss hx (g := mkF m pc Ls (.int x :: st)) rfl rfl (hb hby d) hs hf ho t kk) k
theorem w_tswIn (X : Stand p l e R s m args below meth c T locs cells slots) (hx : p.tables.exec = Jvm.exec) (hby : c.code = bs) {x : Int32} {df lo hi : Int} {os : Array Int} {len : Nat} {off : Int} (hd : In bs pc (.tableswitch df lo hi os) len nx) (hin : ¬ (x.toInt < lo ∨ x.toInt > hi)) (hoff : os[(x.toInt - lo).toNat]? = some off) (ho : 0 ≤ (pc : Int) + off) (ht : ((pc : Int) + off).toNat = tg) (k : Wp p e below s K N Q T (mkF m tg Ls st)) : Wp p e below s K N Q T (mkF m pc Ls (.int x :: st)) := by
  obtain ⟨d, -⟩ := hd; exact Wp.go (fun t kk => XS.tswIn X.here hx rfl rfl (hb hby d) rfl hin hoff ho ht kk) k
theorem w_tswOut (X : Stand p l e R s m args below meth c T locs cells slots) (hx : p.tables.exec = Jvm.exec) (hby : c.code = bs) {x : Int32} {df lo hi : Int} {os : Array Int} {len : Nat} (hd : In bs pc (.tableswitch df lo hi os) len nx) (hout : x.toInt < lo ∨ x.toInt > hi) (ho : 0 ≤ (pc : Int) + df) (ht : ((pc : Int) + df).toNat = tg) (k : Wp p e below s K N Q T (mkF m tg Ls st)) : Wp p e below s K N Q T (mkF m pc Ls (.int x :: st)) := by
  obtain ⟨d, -⟩ := hd; exact Wp.go (fun t kk => XS.tswOut X.here hx rfl rfl (hb hby d) rfl hout ho ht kk) k
theorem own_ne32 {x z : Int32} {i : Int} (h : ¬ x = z) (hz : z.toInt = i) : i ≠ x.toInt := fun q => h (Int32.toInt_inj.mp (by rw [hz, q]))
theorem w_ifnonnullRef (X : Stand p l e R s m args below meth c T locs cells slots) (hx : p.tables.exec = Jvm.exec) (hby : c.code = bs) {a : Addr} (hd : Jm bs pc (.ifnonnull o) o nx tg) (k : Wp p e below s K N Q T (mkF m tg Ls st)) : Wp p e below s K N Q T (mkF m pc Ls (.ref a :: st)) := by
  obtain ⟨d, -, q1, q2⟩ := hd; exact Wp.go (fun t kk => XS.ifnonnullYes X.here hx rfl rfl (hb hby d) rfl q1 q2 kk) k
theorem w_ifnonnullNull (X : Stand p l e R s m args below meth c T locs cells slots) (hx : p.tables.exec = Jvm.exec) (hby : c.code = bs) (hd : Jm bs pc (.ifnonnull o) o nx tg) (k : Wp p e below s K N Q T (mkF m nx Ls st)) : Wp p e below s K N Q T (mkF m pc Ls (.null :: st)) := by
  obtain ⟨d, rfl, q1, q2⟩ := hd; exact Wp.go (fun t kk => XS.ifnonnullNo X.here hx rfl (hb hby d) rfl kk) k
theorem w_ifnullRef (X : Stand p l e R s m args below meth c T locs cells slots) (hx : p.tables.exec = Jvm.exec) (hby : c.code = bs) {a : Addr} (hd : Jm bs pc (.ifnull o) o nx tg) (k : Wp p e below s K N Q T (mkF m nx Ls st)) : Wp p e below s K N Q T (mkF m pc Ls (.ref a :: st)) := by
  obtain ⟨d, rfl, q1, q2⟩ := hd; exact Wp.go (fun t kk => XS.ifnullNo X.here hx rfl (hb hby d) rfl kk) k
theorem w_ifnullNull (X : Stand p l e R s m args below meth c T locs cells slots) (hx : p.tables.exec = Jvm.exec) (hby : c.code = bs) (hd : Jm bs pc (.ifnull o) o nx tg) (k : Wp p e below s K N Q T (mkF m tg Ls st)) : Wp p e below s K N Q T (mkF m pc Ls (.null :: st)) := by
  obtain ⟨d, -, q1, q2⟩ := hd; exact Wp.go (fun t kk => XS.ifnullYes X.here hx rfl rfl (hb hby d) rfl q1 q2 kk) k
theorem w_ldcI (X : Stand p l e R s m args below meth c T locs cells slots) (hx : p.tables.exec = Jvm.exec) (hby : c.code = bs) (hZ : Z.Warmed39 s.vm) {own : String} (hown : s.vm.findClass own = some m.cls) {index : Nat} {v : Int32} (w : (Cond.constant own index v).before a0 Z = true) (hd : In bs pc (.ldc index) 2 nx) (k : Wp p e below s K N Q T (mkF m nx Ls (.int v :: st))) : Wp p e below s K N Q T (mkF m pc Ls st) := by
  obtain ⟨d, rfl⟩ := hd; exact Wp.go (fun t kk => X.ldcInt hx hown (mvT hZ w) (g := mkF m pc Ls st) rfl (hb hby d) t kk) k
theorem w_ldcwI (X : Stand p l e R s m args below meth c T locs cells slots) (hx : p.tables.exec = Jvm.exec) (hby : c.code = bs) (hZ : Z.Warmed39 s.vm) {own : String} (hown : s.vm.findClass own = some m.cls) {index : Nat} {v : Int32} (w : (Cond.constant own index v).before a0 Z = true) (hd : In bs pc (.ldc_w index) 3 nx) (k : Wp p e below s K N Q T (mkF m nx Ls (.int v :: st))) : Wp p e below s K N Q T (mkF m pc Ls st) := by
  obtain ⟨d, rfl⟩ := hd; exact Wp.go (fun t kk => X.ldcWI hx hown (mvT hZ w) (g := mkF m pc Ls st) rfl (hb hby d) kk) k
theorem w_ldc2J (X : Stand p l e R s m args below meth c T locs cells slots) (hx : p.tables.exec = Jvm.exec) (hby : c.code = bs) (hZ : Z.Warmed39 s.vm) {own : String} (hown : s.vm.findClass own = some m.cls) {index : Nat} {v : Int64} (w : (Cond.constantLong own index v).before a0 Z = true) (hd : In bs pc (.ldc2_w index) 3 nx) (k : Wp p e below s K N Q T (mkF m nx Ls (.long v :: st))) : Wp p e below s K N Q T (mkF m pc Ls st) := by
  obtain ⟨d, rfl⟩ := hd; exact Wp.go (fun t kk => X.ldc2Long hx hown (mvT hZ w) (g := mkF m pc Ls st) rfl (hb hby d) t kk) k
theorem w_getS (X : Stand p l e R s m args below meth c T locs cells slots) (hx : p.tables.exec = Jvm.exec) (hby : c.code = bs) (hZ : Z.Warmed39 s.vm) {own : String} (hown : s.vm.findClass own = some m.cls) {R0 C n d host : String} {index : Nat} (w : (Cond.fieldLink own index R0 n d).before a0 Z = true ∨ (Cond.fieldLinkNest own index R0 n d host).before a0 Z = true) (via : Via Z R0 C n d) (eT : T.heap = h) {v : Value} (F : Sta Z h C n d v) (hd : In bs pc (.getstatic index) 3 nx) (k : ∀ T', Stand p l e R s m args below meth c T' locs cells slots → T'.heap = h → Wp p e below s K N Q T' (mkF m nx Ls (v :: st))) : Wp p e below s K N Q T (mkF m pc Ls st) := by
  obtain ⟨d, rfl⟩ := hd; obtain ⟨T', X', e', st'⟩ := getS2 X hx hZ hown w via eT F (g := mkF m pc Ls st) rfl (hb hby d); exact Wp.go st' (k T' X' e')
theorem w_getF (X : Stand p l e R s m args below meth c T locs cells slots) (hx : p.tables.exec = Jvm.exec) (hby : c.code = bs) (hZ : Z.Warmed39 s.vm) {own : String} (hown : s.vm.findClass own = some m.cls) {R0 C n d host : String} {index : Nat} (w : (Cond.fieldLink own index R0 n d).before a0 Z = true ∨ (Cond.fieldLinkNest own index R0 n d host).before a0 Z = true) (via : Via Z R0 C n d) (eT : T.heap = h) {a : Addr} {v : Value} (F : Fld Z h a C n d v) (hd : In bs pc (.getfield index) 3 nx) (k : ∀ T', Stand p l e R s m args below meth c T' locs cells slots → T'.heap = h → Wp p e below s K N Q T' (mkF m nx Ls (v :: st))) : Wp p e below s K N Q T (mkF m pc Ls (.ref a :: st)) := by
  obtain ⟨d, rfl⟩ := hd; obtain ⟨T', X', e', st'⟩ := getF X hx hZ hown w via eT F (g := mkF m pc Ls (.ref a :: st)) rfl rfl (hb hby d); exact Wp.go st' (k T' X' e')
theorem w_putF (X : Stand p l e R s m args below meth c T locs cells slots) (hx : p.tables.exec = Jvm.exec) (hby : c.code = bs) (hZ : Z.Warmed39 s.vm) {own : String} (hown : s.vm.findClass own = some m.cls) {R0 C n d host D : String} {index kk : Nat} {ty : FieldType} (w : (Cond.fieldLink own index R0 n d).before a0 Z = true ∨ (Cond.fieldLinkNest own index R0 n d host).before a0 Z = true) (via : Via Z R0 C n d) (eT : T.heap = h) {a : Addr} {v old : Value} (F : Fld Z h a C n d old) (E : Exa Z h a D) (Lw : (Cond.lays D C n d).before a0 Z = true ∨ ((Cond.laysFinal D C n d).before a0 Z = true ∧ own = C ∧ meth.name = "<init>")) (wi : (Cond.instantiable D kk).before a0 Z = true) (hty : parseFieldDescriptor d = some ty) (hn : narrow ty v = v) (hf : fits ty v = true) (hd : In bs pc (.putfield index) 3 nx) (k : ∀ T' h', Stand p l e R s m args below meth c T' (locs ++ [⟨a, Jvm.RoadKit.slotOf Z C n d⟩]) cells slots → T'.heap = h' → Wr h h' a (Jvm.RoadKit.slotOf Z C n d) v → Wp p e below s K N Q T' (mkF m nx Ls st)) : Wp p e below s K N Q T (mkF m pc Ls (v :: .ref a :: st)) := by
  obtain ⟨d, rfl⟩ := hd; obtain ⟨T', h', X', e', W', st'⟩ := putF X hx hZ hown w via eT F E Lw wi hty hn hf (g := mkF m pc Ls (v :: .ref a :: st)) rfl rfl (hb hby d); exact Wp.go st' (k T' h' X' e' W')
theorem w_putFN (X : Stand p l e R s m args below meth c T locs cells slots) (hx : p.tables.exec = Jvm.exec) (hby : c.code = bs) (hZ : Z.Warmed39 s.vm) {own : String} (hown : s.vm.findClass own = some m.cls) {R0 C n d D : String} {index kk : Nat} {ty : FieldType} (w : (Cond.fieldLink own index R0 n d).before a0 Z = true) (via : Via Z R0 C n d) (eT : T.heap = h) {a : Addr} {v v' old : Value} (F : Fld Z h a C n d old) (E : Exa Z h a D) (Lw : (Cond.lays D C n d).before a0 Z = true ∨ ((Cond.laysFinal D C n d).before a0 Z = true ∧ own = C ∧ meth.name = "<init>")) (wi : (Cond.instantiable D kk).before a0 Z = true) (hty : parseFieldDescriptor d = some ty) (hn : narrow ty v = v') (hf : fits ty v' = true) (hd : In bs pc (.putfield index) 3 nx) (k : ∀ T' h', Stand p l e R s m args below meth c T' (locs ++ [⟨a, Jvm.RoadKit.slotOf Z C n d⟩]) cells slots → T'.heap = h' → Wr h h' a (Jvm.RoadKit.slotOf Z C n d) v' → Wp p e below s K N Q T' (mkF m nx Ls st)) : Wp p e below s K N Q T (mkF m pc Ls (v :: .ref a :: st)) := by
  obtain ⟨d, rfl⟩ := hd; obtain ⟨T', h', X', e', W', st'⟩ := putFN X hx hZ hown w via eT F E Lw wi hty hn hf (g := mkF m pc Ls (v :: .ref a :: st)) rfl rfl (hb hby d); exact Wp.go st' (k T' h' X' e' W')
theorem w_newO (X : Stand p l e R s m args below meth c T locs cells slots) (hx : p.tables.exec = Jvm.exec) (hby : c.code = bs) (hZ : Z.Warmed39 s.vm) {own : String} (hown : s.vm.findClass own = some m.cls) {C : String} {index n : Nat} (w : (Cond.classLink own index C).before a0 Z = true) (wi : (Cond.instantiable C n).before a0 Z = true) (wz : (Cond.initialized C).before a0 Z = true) (eT : T.heap = h) (hd : In bs pc (.new index) 3 nx) (hc : cells + 1 ≤ R.cells) (hl : slots + n ≤ R.slots) (k : ∀ T' h' a, a = h.size → Stand p l e R s m args below meth c T' locs (cells + 1) (slots + n) → T'.heap = h' → Ext h h' → Exa Z h' a C → (∀ {D nm d : String} {ty : FieldType}, Laid Z a0 C D nm d → parseFieldDescriptor d = some ty → Fld Z h' a D nm d (defaultValue ty)) → Wp p e below s K N Q T' (mkF m nx Ls (.ref a :: st))) : Wp p e below s K N Q T (mkF m pc Ls st) := by
  obtain ⟨d, rfl⟩ := hd; obtain ⟨T', h', X', e', E', A', D', -, st'⟩ := newO X hx hZ hown w wi wz eT (g := mkF m pc Ls st) rfl (hb hby d) hc hl; exact Wp.go st' (k T' h' _ rfl X' e' E' A' D')
theorem w_newP (X : Stand p l e R s m args below meth c T locs cells slots) (hx : p.tables.exec = Jvm.exec) (hby : c.code = bs) (hZ : Z.Warmed39 s.vm) {aty : ArrayType} (w : (Cond.arrayClass (newarray.typeOf aty)).before a0 Z = true) (eT : T.heap = h) {n : Int32} (hd : In bs pc (.newarray aty) 2 nx) (hn : ¬ n < 0) (cap : Nat) (hcap : n.toNatClampNeg ≤ cap) (hbig : cap * 8 ≤ 536870912) (hc : cells + 1 ≤ R.cells) (hl : slots + cap ≤ R.slots) (k : ∀ T' h' a kA, a = h.size → Stand p l e R s m args below meth c T' locs (cells + 1) (slots + cap) → T'.heap = h' → Ext h h' → Arr Z h' a (newA kA (newarray.typeOf aty) n) (newarray.typeOf aty) → Wp p e below s K N Q T' (mkF m nx Ls (.ref a :: st))) : Wp p e below s K N Q T (mkF m pc Ls (.int n :: st)) := by
  obtain ⟨d, rfl⟩ := hd; obtain ⟨T', h', kA, X', e', E', A', st'⟩ := newP X hx hZ w eT (g := mkF m pc Ls (.int n :: st)) rfl (hb hby d) rfl hn hcap hbig hc hl; exact Wp.go st' (k T' h' _ kA rfl X' e' E' A')
theorem w_newR (X : Stand p l e R s m args below meth c T locs cells slots) (hx : p.tables.exec = Jvm.exec) (hby : c.code = bs) (hZ : Z.Warmed39 s.vm) {own : String} (hown : s.vm.findClass own = some m.cls) {C : String} {index : Nat} (w1 : (Cond.classLink own index C).before a0 Z = true) (w2 : (Cond.arrayOver (.object C)).before a0 Z = true) (eT : T.heap = h) {n : Int32} (hd : In bs pc (.anewarray index) 3 nx) (hn : ¬ n < 0) (cap : Nat) (hcap : n.toNatClampNeg ≤ cap) (hbig : cap * 8 ≤ 536870912) (hc : cells + 1 ≤ R.cells) (hl : slots + cap ≤ R.slots) (k : ∀ T' h' a kA, a = h.size → Stand p l e R s m args below meth c T' locs (cells + 1) (slots + cap) → T'.heap = h' → Ext h h' → Arr Z h' a (newA kA (.object C) n) (.object C) → Ovr Z kA C → Wp p e below s K N Q T' (mkF m nx Ls (.ref a :: st))) : Wp p e below s K N Q T (mkF m pc Ls (.int n :: st)) := by
  obtain ⟨d, rfl⟩ := hd; obtain ⟨T', h', kA, X', e', E', A', O', st'⟩ := newR X hx hZ hown w1 w2 eT (g := mkF m pc Ls (.int n :: st)) rfl (hb hby d) rfl hn hcap hbig hc hl; exact Wp.go st' (k T' h' _ kA rfl X' e' E' A' O')
theorem w_stI (X : Stand p l e R s m args below meth c T locs cells slots) (hx : p.tables.exec = Jvm.exec) (hby : c.code = bs) (hZ : Z.Warmed39 s.vm) (eT : T.heap = h) {a : Addr} {cl : Cell} (A : Arr Z h a cl .int) {j : Int32} {x : Int32} (hj : ¬ (j < 0 ∨ cl.slots.size ≤ j.toNatClampNeg)) (hd : In bs pc .iastore 1 nx) (k : ∀ T' h', Stand p l e R s m args below meth c T' (locs ++ [⟨a, j.toNatClampNeg⟩]) cells slots → T'.heap = h' → Wr h h' a j.toNatClampNeg (.int x) → Wp p e below s K N Q T' (mkF m nx Ls st)) : Wp p e below s K N Q T (mkF m pc Ls (.int x :: .int j :: .ref a :: st)) := by
  obtain ⟨d, rfl⟩ := hd; obtain ⟨T', h', X', e', W', st'⟩ := stI X hx hZ eT A hj (g := mkF m pc Ls (.int x :: .int j :: .ref a :: st)) rfl rfl (hb hby d); exact Wp.go st' (k T' h' X' e' W')
theorem w_stJ (X : Stand p l e R s m args below meth c T locs cells slots) (hx : p.tables.exec = Jvm.exec) (hby : c.code = bs) (hZ : Z.Warmed39 s.vm) (eT : T.heap = h) {a : Addr} {cl : Cell} (A : Arr Z h a cl .long) {j : Int32} {x : Int64} (hj : ¬ (j < 0 ∨ cl.slots.size ≤ j.toNatClampNeg)) (hd : In bs pc .lastore 1 nx) (k : ∀ T' h', Stand p l e R s m args below meth c T' (locs ++ [⟨a, j.toNatClampNeg⟩]) cells slots → T'.heap = h' → Wr h h' a j.toNatClampNeg (.long x) → Wp p e below s K N Q T' (mkF m nx Ls st)) : Wp p e below s K N Q T (mkF m pc Ls (.long x :: .int j :: .ref a :: st)) := by
  obtain ⟨d, rfl⟩ := hd; obtain ⟨T', h', X', e', W', st'⟩ := stJ X hx hZ eT A hj (g := mkF m pc Ls (.long x :: .int j :: .ref a :: st)) rfl rfl (hb hby d); exact Wp.go st' (k T' h' X' e' W')
theorem w_stC (X : Stand p l e R s m args below meth c T locs cells slots) (hx : p.tables.exec = Jvm.exec) (hby : c.code = bs) (hZ : Z.Warmed39 s.vm) (eT : T.heap = h) {a : Addr} {cl : Cell} (A : Arr Z h a cl .char) {j : Int32} {x : Int32} (hj : ¬ (j < 0 ∨ cl.slots.size ≤ j.toNatClampNeg)) (hd : In bs pc .castore 1 nx) (k : ∀ T' h', Stand p l e R s m args below meth c T' (locs ++ [⟨a, j.toNatClampNeg⟩]) cells slots → T'.heap = h' → Wr h h' a j.toNatClampNeg (.int (nar .char x)) → Wp p e below s K N Q T' (mkF m nx Ls st)) : Wp p e below s K N Q T (mkF m pc Ls (.int x :: .int j :: .ref a :: st)) := by
  obtain ⟨d, rfl⟩ := hd; obtain ⟨T', h', X', e', W', st'⟩ := stC X hx hZ eT A hj (g := mkF m pc Ls (.int x :: .int j :: .ref a :: st)) rfl rfl (hb hby d); exact Wp.go st' (k T' h' X' e' W')
theorem w_stB (X : Stand p l e R s m args below meth c T locs cells slots) (hx : p.tables.exec = Jvm.exec) (hby : c.code = bs) (hZ : Z.Warmed39 s.vm) (eT : T.heap = h) {a : Addr} {cl : Cell} (A : Arr Z h a cl .byte) {j : Int32} {x : Int32} (hj : ¬ (j < 0 ∨ cl.slots.size ≤ j.toNatClampNeg)) (hd : In bs pc .bastore 1 nx) (k : ∀ T' h', Stand p l e R s m args below meth c T' (locs ++ [⟨a, j.toNatClampNeg⟩]) cells slots → T'.heap = h' → Wr h h' a j.toNatClampNeg (.int (nar .byte x)) → Wp p e below s K N Q T' (mkF m nx Ls st)) : Wp p e below s K N Q T (mkF m pc Ls (.int x :: .int j :: .ref a :: st)) := by
  obtain ⟨d, rfl⟩ := hd; obtain ⟨T', h', X', e', W', st'⟩ := stB X hx hZ eT A hj (g := mkF m pc Ls (.int x :: .int j :: .ref a :: st)) rfl rfl (hb hby d); exact Wp.go st' (k T' h' X' e' W')
theorem w_stZ (X : Stand p l e R s m args below meth c T locs cells slots) (hx : p.tables.exec = Jvm.exec) (hby : c.code = bs) (hZ : Z.Warmed39 s.vm) (eT : T.heap = h) {a : Addr} {cl : Cell} (A : Arr Z h a cl .boolean) {j : Int32} {x : Int32} (hj : ¬ (j < 0 ∨ cl.slots.size ≤ j.toNatClampNeg)) (hd : In bs pc .bastore 1 nx) (k : ∀ T' h', Stand p l e R s m args below meth c T' (locs ++ [⟨a, j.toNatClampNeg⟩]) cells slots → T'.heap = h' → Wr h h' a j.toNatClampNeg (.int (nar .boolean x)) → Wp p e below s K N Q T' (mkF m nx Ls st)) : Wp p e below s K N Q T (mkF m pc Ls (.int x :: .int j :: .ref a :: st)) := by
  obtain ⟨d, rfl⟩ := hd; obtain ⟨T', h', X', e', W', st'⟩ := stZ X hx hZ eT A hj (g := mkF m pc Ls (.int x :: .int j :: .ref a :: st)) rfl rfl (hb hby d); exact Wp.go st' (k T' h' X' e' W')
theorem w_stR (X : Stand p l e R s m args below meth c T locs cells slots) (hx : p.tables.exec = Jvm.exec) (hby : c.code = bs) (hZ : Z.Warmed39 s.vm) (eT : T.heap = h) {a : Addr} {cl : Cell} {ty : FieldType} (A : Arr Z h a cl ty) {j : Int32} {v : Value} (hj : ¬ (j < 0 ∨ cl.slots.size ≤ j.toNatClampNeg)) (hty : ty.isReference = true) (F : Sto Z h a v) (hd : In bs pc .aastore 1 nx) (k : ∀ T' h', Stand p l e R s m args below meth c T' (locs ++ [⟨a, j.toNatClampNeg⟩]) cells slots → T'.heap = h' → Wr h h' a j.toNatClampNeg v → Wp p e below s K N Q T' (mkF m nx Ls st)) : Wp p e below s K N Q T (mkF m pc Ls (v :: .int j :: .ref a :: st)) := by
  obtain ⟨d, rfl⟩ := hd; obtain ⟨T', h', X', e', W', st'⟩ := stR X hx hZ eT A hj hty F (g := mkF m pc Ls (v :: .int j :: .ref a :: st)) rfl rfl (hb hby d); exact Wp.go st' (k T' h' X' e' W')
theorem w_iaload (X : Stand p l e R s m args below meth c T locs cells slots) (hx : p.tables.exec = Jvm.exec) (hby : c.code = bs) (hZ : Z.Warmed39 s.vm) (eT : T.heap = h) {a : Addr} {cl : Cell} (A : Arr Z h a cl .int) {j : Int32} {v : Value} (hj : ¬ (j < 0 ∨ cl.slots.size ≤ j.toNatClampNeg)) (hv : cl.slots[j.toNatClampNeg]? = some v) (hd : In bs pc .iaload 1 nx) (k : Wp p e below s K N Q T (mkF m nx Ls (v :: st))) : Wp p e below s K N Q T (mkF m pc Ls (.int j :: .ref a :: st)) := by
  obtain ⟨d, rfl⟩ := hd; exact Wp.go (fun t kk => X.iaload hx (by rw [eT]; exact A.1) (State.isArrayOf_alike hZ.alike A.2.1) A.2.2 hj hv (g := mkF m pc Ls (.int j :: .ref a :: st)) rfl rfl (hb hby d) t kk) k
theorem w_laload (X : Stand p l e R s m args below meth c T locs cells slots) (hx : p.tables.exec = Jvm.exec) (hby : c.code = bs) (hZ : Z.Warmed39 s.vm) (eT : T.heap = h) {a : Addr} {cl : Cell} (A : Arr Z h a cl .long) {j : Int32} {v : Value} (hj : ¬ (j < 0 ∨ cl.slots.size ≤ j.toNatClampNeg)) (hv : cl.slots[j.toNatClampNeg]? = some v) (hd : In bs pc .laload 1 nx) (k : Wp p e below s K N Q T (mkF m nx Ls (v :: st))) : Wp p e below s K N Q T (mkF m pc Ls (.int j :: .ref a :: st)) := by
  obtain ⟨d, rfl⟩ := hd; exact Wp.go (fun t kk => X.laload hx (by rw [eT]; exact A.1) (State.isArrayOf_alike hZ.alike A.2.1) A.2.2 hj hv (g := mkF m pc Ls (.int j :: .ref a :: st)) rfl rfl (hb hby d) t kk) k
theorem w_caload (X : Stand p l e R s m args below meth c T locs cells slots) (hx : p.tables.exec = Jvm.exec) (hby : c.code = bs) (hZ : Z.Warmed39 s.vm) (eT : T.heap = h) {a : Addr} {cl : Cell} (A : Arr Z h a cl .char) {j : Int32} {v : Value} (hj : ¬ (j < 0 ∨ cl.slots.size ≤ j.toNatClampNeg)) (hv : cl.slots[j.toNatClampNeg]? = some v) (hd : In bs pc .caload 1 nx) (k : Wp p e below s K N Q T (mkF m nx Ls (v :: st))) : Wp p e below s K N Q T (mkF m pc Ls (.int j :: .ref a :: st)) := by
  obtain ⟨d, rfl⟩ := hd; exact Wp.go (fun t kk => X.caload hx (by rw [eT]; exact A.1) (State.isArrayOf_alike hZ.alike A.2.1) A.2.2 hj hv (g := mkF m pc Ls (.int j :: .ref a :: st)) rfl rfl (hb hby d) t kk) k
theorem w_baload (X : Stand p l e R s m args below meth c T locs cells slots) (hx : p.tables.exec = Jvm.exec) (hby : c.code = bs) (hZ : Z.Warmed39 s.vm) (eT : T.heap = h) {a : Addr} {cl : Cell} (A : Arr Z h a cl .byte) {j : Int32} {v : Value} (hj : ¬ (j < 0 ∨ cl.slots.size ≤ j.toNatClampNeg)) (hv : cl.slots[j.toNatClampNeg]? = some v) (hd : In bs pc .baload 1 nx) (k : Wp p e below s K N Q T (mkF m nx Ls (v :: st))) : Wp p e below s K N Q T (mkF m pc Ls (.int j :: .ref a :: st)) := by
  obtain ⟨d, rfl⟩ := hd; exact Wp.go (fun t kk => X.baloadBytes hx (by rw [eT]; exact A.1) (State.isArrayOf_alike hZ.alike A.2.1) A.2.2 hj hv (g := mkF m pc Ls (.int j :: .ref a :: st)) rfl rfl (hb hby d) t kk) k
theorem w_aaload (X : Stand p l e R s m args below meth c T locs cells slots) (hx : p.tables.exec = Jvm.exec) (hby : c.code = bs) (hZ : Z.Warmed39 s.vm) (eT : T.heap = h) {a : Addr} {cl : Cell} {ty : FieldType} (A : Arr Z h a cl ty) (hty : ty.isReference = true) {j : Int32} {v : Value} (hj : ¬ (j < 0 ∨ cl.slots.size ≤ j.toNatClampNeg)) (hv : cl.slots[j.toNatClampNeg]? = some v) (hd : In bs pc .aaload 1 nx) (k : Wp p e below s K N Q T (mkF m nx Ls (v :: st))) : Wp p e below s K N Q T (mkF m pc Ls (.int j :: .ref a :: st)) := by
  obtain ⟨d, rfl⟩ := hd; exact Wp.go (fun t kk => X.aaload hx (by rw [eT]; exact A.1) (State.isArrayOf_alike hZ.alike A.2.1) hty A.2.2 hj hv (g := mkF m pc Ls (.int j :: .ref a :: st)) rfl rfl (hb hby d) t kk) k
theorem w_arraylength (X : Stand p l e R s m args below meth c T locs cells slots) (hx : p.tables.exec = Jvm.exec) (hby : c.code = bs) (hZ : Z.Warmed39 s.vm) (eT : T.heap = h) {a : Addr} {cl : Cell} {ty : FieldType} (A : Arr Z h a cl ty) {z : Int32} (hz : cl.slots.size.toInt32 = z) (hd : In bs pc .arraylength 1 nx) (k : Wp p e below s K N Q T (mkF m nx Ls (.int z :: st))) : Wp p e below s K N Q T (mkF m pc Ls (.ref a :: st)) := by
  obtain ⟨d, rfl⟩ := hd; subst hz; exact Wp.go (fun t kk => X.arraylength hx (by rw [eT]; exact A.1) (State.isArrayOf_alike hZ.alike A.2.1) (g := mkF m pc Ls (.ref a :: st)) rfl rfl (hb hby d) t kk) k
theorem w_initO (X : Stand p l e R s m args below meth c T locs cells slots) (hx : p.tables.exec = Jvm.exec) (hby : c.code = bs) (hZ : Z.Warmed39 s.vm) {own : String} (hown : s.vm.findClass own = some m.cls) (hml : Ls.size = c.maxLocals) {idx : Nat} (w1 : (Cond.methodLink own idx Lib.objectInit).before a0 Z = true) (w2 : (Cond.instanceMethod Lib.objectInit).before a0 Z = true) (w3 : (Cond.code Lib.objectInit ⟨#[0xb1]⟩ 1 none).before a0 Z = true) (eT : T.heap = h) {a : Addr} (hd : In bs pc (.invokespecial idx) 3 nx) (hf : 1 ≤ R.frames) {Wd : Nat} (hW : (st.map fun v => v.category).sum = Wd) (hl : Wd + 12 ≤ R.locals) (k : ∀ T', Stand p l e R s m args below meth c T' locs cells slots → T'.heap = h → Wp p e below s K N Q T' (mkF m nx Ls st)) : Wp p e below s K N Q T (mkF m pc Ls (.ref a :: st)) := by
  obtain ⟨d, rfl⟩ := hd; obtain ⟨T', X', e', st'⟩ := initO X hx hZ hown w1 w2 w3 eT (g := mkF m pc Ls (.ref a :: st)) rfl hml rfl (hb hby d) hf (W := Wd) (by show 2 * 0 + _ ≤ _; omega) hl; exact Wp.go st' (k T' X' e')
/-- a body's contract: called on as' at the heap h it returns as Q says, within the room rm -/
def Con (l : Launch) (Z : State) (y : MethodName) (bs : ByteArray) (ml : Nat) (rt : Option FieldType) (rm : Room) (as' : Array Value) (h : Heap) (Q : Option Value → Heap → List Loc → Prop) : Prop :=
  ∀ ws : List Jvm.Cond, MetFree l y (head1 (Jvm.Cond.code y bs ml rt :: ws) rm) (fun a U => a = as' ∧ Z.Warmed39 U.vm ∧ U.heap = h) (fun _ _ _ _ _ => True) (fun _ U o U' => ∃ v L, o = .returned v ∧ Q v U'.heap L ∧ FrameEnd U o U' L rm.cells rm.slots)
theorem w_body {y : MethodName} {ml : Nat} {rt : Option FieldType} {rm : Room} {as' : Array Value} (hy : plainFor y = true) (hf : ∀ m, entryFrame m as' ml = mkF m 0 Ls [])
    (k : ∀ (p : Program) (e : Env) (s : State) (m : MethodId) (below : List Frame) (meth : Method) (c : Code) (T : State), Stand p l e rm s m as' below meth c T [] 0 0 → p.tables.exec = Jvm.exec → c.code = bs → c.maxLocals = ml → s.vm.findClass y.cls = some m.cls → meth.name = y.name → meth.sig.returnType = rt → meth.locks = false → Z.Warmed39 s.vm → T.heap = h → Wp p e below s rm.cells rm.slots Q T (mkF m 0 Ls [])) : Con l Z y bs ml rt rm as' h Q := by
  intro ws
  refine MetFree.of_bodySF hy hisR ?_
  intro p e s m args below meth c s₁ Bd hml0 hP hK
  obtain ⟨rfl, hZ, hh⟩ := hP
  have e0 : s₁.heap = h := by rw [← hh, Bd.state]; rfl
  rw [hf m]
  exact k p e s m below meth c s₁ (Stand.of_body Bd) Bd.exec Bd.bytes hml0 (findClass_of_methodNamed Bd.named) (name_of_methodNamed Bd.named Bd.method).1 Bd.returns (BodyLoose.notSynchronized Bd) hZ e0
/-- what a call leaves -/
def Called (p : Program) (l : Launch) (e : Env) (R : Room) (s : State) (m : MethodId) (args : Array Value) (below : List Frame) (meth : Method) (c : Code) (T : State) (locs : List Loc) (cells slots : Nat) (rm : Room) (Qc : Option Value → Heap → List Loc → Prop) (pc nx : Nat) (Ls : Array Slot) (stk rest : List Value) : Prop :=
  ∃ v T' L, Stand p l e R s m args below meth c T' (locs ++ L) (cells + rm.cells) (slots + rm.slots) ∧ Qc v T'.heap L ∧ Steps p.tables e below (T.setTop (mkF m pc Ls stk)) (T'.setTop (mkF m nx Ls (v.toList ++ rest)))
theorem call_S (X : Stand p l e R s m args below meth c T locs cells slots) (hx : p.tables.exec = Jvm.exec) (hby : c.code = bs) (hZ : Z.Warmed39 s.vm) {own : String} (hown : s.vm.findClass own = some m.cls) {y : MethodName} {ml : Nat} {rt : Option FieldType} {rm : Room} {as' : Array Value} {Qc : Option Value → Heap → List Loc → Prop} {index : Nat} {argsL rest : List Value} {Wd : Nat} {bs' : ByteArray} (w1 : (Cond.methodLink own index y).before a0 Z = true) (w2 : (Cond.static y).before a0 Z = true) (wz : (Cond.initialized y.cls).before a0 Z = true) (wc : (Cond.code y bs' ml rt).before a0 Z = true) (hy : y.cls ≠ "java/lang/invoke/MethodHandle" ∧ y.cls ≠ "java/lang/invoke/VarHandle") (con : Con l Z y bs' ml rt rm as' h Qc) (ha : argsL.toArray = as') (hd : In bs pc (.invokestatic index) 3 nx) (hsz : Ls.size = c.maxLocals) (hlen : ∀ sig, parseMethodDescriptor y.desc = some sig → argsL.length = sig.parameters.length) (hW : (rest.map fun v => v.category).sum = Wd) (hfr : rm.frames + 1 ≤ R.frames) (hlo : Wd + (ml + 11) + rm.locals ≤ R.locals) (hce : cells + rm.cells ≤ R.cells) (hso : slots + rm.slots ≤ R.slots) (eT : T.heap = h) : Called p l e R s m args below meth c T locs cells slots rm Qc pc nx Ls (argsL.reverse ++ rest) rest := by
  obtain ⟨d, rfl⟩ := hd
  obtain ⟨v, vm, ⟨T', L', k', n'⟩, -, X', ⟨L, q, l', y', z'⟩, st'⟩ := Jvm.LawKit.callS X hx (y := y) hown (mvT hZ w1) (mvT hZ w2) (mvT hZ wz) (mvT hZ wc) hy (backOf (W := Wd) (con []) hZ wc wz hfr hlo) (g := mkF m pc Ls (argsL.reverse ++ rest)) rfl hsz (argsL := argsL) (rest := rest) hlen rfl (by show 2 * 0 + _ ≤ _; omega) (hb hby d) (fun _ _ => ⟨ha, eT, hce, hso⟩)
  dsimp only [Pt.U, Pt.locs, Pt.cells, Pt.slots] at X' l' y' z' st' q
  subst l' y' z'
  exact ⟨v, T', L, X', q, st' _ (Steps.refl _)⟩
theorem call_N (X : Stand p l e R s m args below meth c T locs cells slots) (hx : p.tables.exec = Jvm.exec) (hby : c.code = bs) (hZ : Z.Warmed39 s.vm) {own : String} (hown : s.vm.findClass own = some m.cls) {y : MethodName} {ml : Nat} {rm : Room} {as' : Array Value} {Qc : Option Value → Heap → List Loc → Prop} {index : Nat} {argsL rest : List Value} {Wd : Nat} {bs' : ByteArray} {a : Addr} (hn : y.name = "<init>") (w1 : (Cond.methodLink own index y).before a0 Z = true) (w2 : (Cond.instanceMethod y).before a0 Z = true) (wz : (Cond.initialized y.cls).before a0 Z = true) (wc : (Cond.code y bs' ml none).before a0 Z = true) (hy : y.cls ≠ "java/lang/invoke/MethodHandle" ∧ y.cls ≠ "java/lang/invoke/VarHandle") (con : Con l Z y bs' ml none rm as' h Qc) (ha : (.ref a :: argsL).toArray = as') (hd : In bs pc (.invokespecial index) 3 nx) (hsz : Ls.size = c.maxLocals) (hlen : ∀ sig, parseMethodDescriptor y.desc = some sig → argsL.length = sig.parameters.length) (hW : (rest.map fun v => v.category).sum = Wd) (hfr : rm.frames + 1 ≤ R.frames) (hlo : Wd + (ml + 11) + rm.locals ≤ R.locals) (hce : cells + rm.cells ≤ R.cells) (hso : slots + rm.slots ≤ R.slots) (eT : T.heap = h) : Called p l e R s m args below meth c T locs cells slots rm Qc pc nx Ls (argsL.reverse ++ .ref a :: rest) rest := by
  obtain ⟨d, rfl⟩ := hd
  obtain ⟨v, vm, ⟨T', L', k', n'⟩, -, X', ⟨L, q, l', y', z'⟩, st'⟩ := X.specialBack hx (y := y) hn hown (mvT hZ w1) (mvT hZ w2) (mvT hZ wc) hy (backOf (W := Wd) (con []) hZ wc wz hfr hlo) (g := mkF m pc Ls (argsL.reverse ++ .ref a :: rest)) rfl hsz (Steps.refl _) (a := a) (argsL := argsL) (rest := rest) hlen rfl (by show 2 * 0 + _ ≤ _; omega) (hb hby d) (fun _ _ => ⟨ha, eT, hce, hso⟩)
  dsimp only [Pt.U, Pt.locs, Pt.cells, Pt.slots] at X' l' y' z' st' q
  subst l' y' z'
  exact ⟨v, T', L, X', q, st'⟩
theorem call_V (X : Stand p l e R s m args below meth c T locs cells slots) (hx : p.tables.exec = Jvm.exec) (hby : c.code = bs) (hZ : Z.Warmed39 s.vm) {own : String} (hown : s.vm.findClass own = some m.cls) {y : MethodName} {ml : Nat} {rt : Option FieldType} {rm : Room} {as' : Array Value} {Qc : Option Value → Heap → List Loc → Prop} {index : Nat} {argsL rest : List Value} {Wd : Nat} {bs' : ByteArray} {a : Addr} {C : String} (w1 : (Cond.methodLink own index y).before a0 Z = true) (w2 : (Cond.declares y).before a0 Z = true) (w3 : (Cond.selects C y y).before a0 Z = true) (w4 : (Cond.instanceMethod y).before a0 Z = true) (wz : (Cond.initialized y.cls).before a0 Z = true) (wc : (Cond.code y bs' ml rt).before a0 Z = true) (hy : y.cls ≠ "java/lang/invoke/MethodHandle" ∧ y.cls ≠ "java/lang/invoke/VarHandle") (E : Exa Z h a C) (con : Con l Z y bs' ml rt rm as' h Qc) (ha : (.ref a :: argsL).toArray = as') (hd : In bs pc (.invokevirtual index) 3 nx) (hsz : Ls.size = c.maxLocals) (hlen : ∀ sig, parseMethodDescriptor y.desc = some sig → argsL.length = sig.parameters.length) (hW : (rest.map fun v => v.category).sum = Wd) (hfr : rm.frames + 1 ≤ R.frames) (hlo : Wd + (ml + 11) + rm.locals ≤ R.locals) (hce : cells + rm.cells ≤ R.cells) (hso : slots + rm.slots ≤ R.slots) (eT : T.heap = h) : Called p l e R s m args below meth c T locs cells slots rm Qc pc nx Ls (argsL.reverse ++ .ref a :: rest) rest := by
  obtain ⟨d, rfl⟩ := hd
  obtain ⟨cq, kq, qa, qb, qc⟩ := isOf hZ eT E
  obtain ⟨v, vm, ⟨T', L', k', n'⟩, -, X', ⟨L, q, l', y', z'⟩, st'⟩ := X.virtualBack hx (y := y) (z := y) hown (mvT hZ w1) (mvT hZ w2) (notFace_of_selects (args := #[]) (mvT hZ w3)) (mvT hZ w3) (mvT hZ w4) hy (backOf (W := Wd) (con []) hZ wc wz hfr hlo) qa qc (g := mkF m pc Ls (argsL.reverse ++ .ref a :: rest)) rfl hsz (Steps.refl _) (argsL := argsL) (rest := rest) hlen rfl (by show 2 * 0 + _ ≤ _; omega) (hb hby d) (fun _ _ => ⟨ha, eT, hce, hso⟩)
  dsimp only [Pt.U, Pt.locs, Pt.cells, Pt.slots] at X' l' y' z' st' q
  subst l' y' z'
  exact ⟨v, T', L, X', q, st'⟩
theorem call_U (X : Stand p l e R s m args below meth c T locs cells slots) (hx : p.tables.exec = Jvm.exec) (hby : c.code = bs) (hZ : Z.Warmed39 s.vm) {own : String} (hown : s.vm.findClass own = some m.cls) {y : MethodName} {ml : Nat} {rt : Option FieldType} {rm : Room} {as' : Array Value} {Qc : Option Value → Heap → List Loc → Prop} {index : Nat} {argsL rest : List Value} {Wd : Nat} {bs' : ByteArray} {x : MethodName} {a : Addr} {C owner : String} (w1 : (Cond.methodLink own index x).before a0 Z = true) (w2 : (Cond.sameMethod x.cls owner x.name x.desc).before a0 Z = true) (w5 : (Cond.declares ⟨owner, x.name, x.desc⟩).before a0 Z = true) (ho : owner ≠ "java/lang/invoke/MethodHandle" ∧ owner ≠ "java/lang/invoke/VarHandle") (w3 : (Cond.selects C x y).before a0 Z = true) (w4 : (Cond.instanceMethod y).before a0 Z = true) (wz : (Cond.initialized y.cls).before a0 Z = true) (wc : (Cond.code y bs' ml rt).before a0 Z = true) (E : Exa Z h a C) (con : Con l Z y bs' ml rt rm as' h Qc) (ha : (.ref a :: argsL).toArray = as') (hd : In bs pc (.invokevirtual index) 3 nx) (hsz : Ls.size = c.maxLocals) (hlen : ∀ sig, parseMethodDescriptor x.desc = some sig → argsL.length = sig.parameters.length) (hW : (rest.map fun v => v.category).sum = Wd) (hfr : rm.frames + 1 ≤ R.frames) (hlo : Wd + (ml + 11) + rm.locals ≤ R.locals) (hce : cells + rm.cells ≤ R.cells) (hso : slots + rm.slots ≤ R.slots) (eT : T.heap = h) : Called p l e R s m args below meth c T locs cells slots rm Qc pc nx Ls (argsL.reverse ++ .ref a :: rest) rest := by
  obtain ⟨d, rfl⟩ := hd
  obtain ⟨cq, kq, qa, qb, qc⟩ := isOf hZ eT E
  obtain ⟨v, vm, ⟨T', L', k', n'⟩, -, X', ⟨L, q, l', y', z'⟩, st'⟩ := X.virtualBackUp hx (x := x) (y := y) hown (mvT hZ w1) (mvT hZ w2) (mvT hZ w5) ho (mvT hZ w3) (mvT hZ w4) (backOf (W := Wd) (con []) hZ wc wz hfr hlo) qa qc (g := mkF m pc Ls (argsL.reverse ++ .ref a :: rest)) rfl hsz (Steps.refl _) (argsL := argsL) (rest := rest) hlen rfl (by show 2 * 0 + _ ≤ _; omega) (hb hby d) (fun _ _ => ⟨ha, eT, hce, hso⟩)
  dsimp only [Pt.U, Pt.locs, Pt.cells, Pt.slots] at X' l' y' z' st' q
  subst l' y' z'
  exact ⟨v, T', L, X', q, st'⟩
/-- behind a call -/
theorem w_called {rm : Room} {Qc : Option Value → Heap → List Loc → Prop} {stk rest : List Value} (hc : Called p l e R s m args below meth c T locs cells slots rm Qc pc nx Ls stk rest)
    (k : ∀ v T' L, Stand p l e R s m args below meth c T' (locs ++ L) (cells + rm.cells) (slots + rm.slots) → Qc v T'.heap L → Wp p e below s K N Q T' (mkF m nx Ls (v.toList ++ rest))) : Wp p e below s K N Q T (mkF m pc Ls stk) := by
  obtain ⟨v, T', L, X', q, st'⟩ := hc; exact Wp.tr st' (k v T' L X' q)
/-- behind a call that writes nothing and makes nothing -/
theorem w_calledp {rm : Room} {w : Value} {stk rest : List Value} (hc : Called p l e R s m args below meth c T locs cells slots rm (fun v h' L => v = some w ∧ h' = h ∧ L = []) pc nx Ls stk rest) (h1 : rm.cells = 0) (h2 : rm.slots = 0)
    (k : ∀ T', Stand p l e R s m args below meth c T' locs cells slots → T'.heap = h → Wp p e below s K N Q T' (mkF m nx Ls (w :: rest))) : Wp p e below s K N Q T (mkF m pc Ls stk) := by
  obtain ⟨v, T', L, X', ⟨rfl, q, rfl⟩, st'⟩ := hc
  rw [h1, h2, List.append_nil] at X'
  exact Wp.tr st' (k T' X' q)
theorem w_retI (X : Stand p l e R s m args below meth c T locs cells slots) (hx : p.tables.exec = Jvm.exec) (hby : c.code = bs) (eT : T.heap = h) (hlk : meth.locks = false) {z : Int32} (hret : meth.sig.returnType = some .int) (hd : In bs pc .ireturn 1 nx) (hK : cells ≤ K) (hN : slots ≤ N) (q : Q (some (.int z)) h locs) : Wp p e below s K N Q T (mkF m pc Ls (.int z :: st)) := by
  obtain ⟨fs, hr, hrun, hended, hW, hsame⟩ := X.leave (v := some (.int z)) (fun h => by rw [hret] at h; cases h) hlk
  subst eT
  refine ⟨_, _, ?_, hrun, hended, _, _, rfl, q, ⟨_, rfl⟩, hW, hsame.mono hK hN⟩
  exact retOut X hx hret rfl (Or.inl ⟨rfl, Or.inl rfl, z, rfl⟩) (hb hby hd.1) hr
theorem w_retN (X : Stand p l e R s m args below meth c T locs cells slots) (hx : p.tables.exec = Jvm.exec) (hby : c.code = bs) (eT : T.heap = h) (hlk : meth.locks = false) {z : Int32} {t : FieldType} (hret : meth.sig.returnType = some t) (ht : t = .boolean ∨ t = .byte ∨ t = .char ∨ t = .short) (hd : In bs pc .ireturn 1 nx) (hK : cells ≤ K) (hN : slots ≤ N) (q : Q (some (.int (nar t z))) h locs) : Wp p e below s K N Q T (mkF m pc Ls (.int z :: st)) := by
  obtain ⟨fs, hr, hrun, hended, hW, hsame⟩ := X.leave (v := some (.int (nar t z))) (fun h => by rw [hret] at h; cases h) hlk
  subst eT
  refine ⟨_, _, ?_, hrun, hended, _, _, rfl, q, ⟨_, rfl⟩, hW, hsame.mono hK hN⟩
  exact retN X hx hret ht (hb hby hd.1) hr
theorem w_retJ (X : Stand p l e R s m args below meth c T locs cells slots) (hx : p.tables.exec = Jvm.exec) (hby : c.code = bs) (eT : T.heap = h) (hlk : meth.locks = false) {z : Int64} (hret : meth.sig.returnType = some .long) (hd : In bs pc .lreturn 1 nx) (hK : cells ≤ K) (hN : slots ≤ N) (q : Q (some (.long z)) h locs) : Wp p e below s K N Q T (mkF m pc Ls (.long z :: st)) := by
  obtain ⟨fs, hr, hrun, hended, hW, hsame⟩ := X.leave (v := some (.long z)) (fun h => by rw [hret] at h; cases h) hlk
  subst eT
  refine ⟨_, _, ?_, hrun, hended, _, _, rfl, q, ⟨_, rfl⟩, hW, hsame.mono hK hN⟩
  exact retOut X hx hret rfl (Or.inr (Or.inl ⟨rfl, rfl, z, rfl⟩)) (hb hby hd.1) hr
theorem w_retA (X : Stand p l e R s m args below meth c T locs cells slots) (hx : p.tables.exec = Jvm.exec) (hby : c.code = bs) (eT : T.heap = h) (hlk : meth.locks = false) {w : Value} {t : FieldType} (hret : meth.sig.returnType = some t) (ht : t.isReference = true) (hw : w.isRef = true) (hn : narrow t w = w) (hd : In bs pc .areturn 1 nx) (hK : cells ≤ K) (hN : slots ≤ N) (q : Q (some w) h locs) : Wp p e below s K N Q T (mkF m pc Ls (w :: st)) := by
  obtain ⟨fs, hr, hrun, hended, hW, hsame⟩ := X.leave (v := some w) (fun h => by rw [hret] at h; cases h) hlk
  subst eT
  refine ⟨_, _, ?_, hrun, hended, _, _, rfl, q, ⟨_, rfl⟩, hW, hsame.mono hK hN⟩
  exact retOut X hx hret hn (Or.inr (Or.inr (Or.inr (Or.inr ⟨rfl, ht, hw⟩)))) (hb hby hd.1) hr
theorem w_retV (X : Stand p l e R s m args below meth c T locs cells slots) (hx : p.tables.exec = Jvm.exec) (hby : c.code = bs) (eT : T.heap = h) (hlk : meth.locks = false) (hret : meth.sig.returnType = none) (hd : In bs pc .return_ 1 nx) (hK : cells ≤ K) (hN : slots ≤ N) (q : Q none h locs) : Wp p e below s K N Q T (mkF m pc Ls []) := by
  obtain ⟨fs, hr, hrun, hended, hW, hsame⟩ := X.leave (v := none) (fun _ => rfl) hlk
  subst eT
  refine ⟨_, _, ?_, hrun, hended, _, _, rfl, q, ⟨_, rfl⟩, hW, hsame.mono hK hN⟩
  exact X.returnOut hx hret (hb hby hd.1) hr
theorem own_ns {Z : State} {h : Heap} {a : Addr} {K : String} (E : Exa Z h a K) : ∃ c : Cell, h[a]? = some c ∧ c.vm.isStatics = false := by
  obtain ⟨c, _, h1, -, -, h4, -⟩ := E; exact ⟨c, h1, h4⟩
theorem own_nsV {Z : State} {h : Heap} {a : Addr} {k : ClassId} {ty : FieldType} {n : Int32} {vs : List Value} {dv : Value} (E : Arv Z h a k ty n vs dv) : ∃ c : Cell, h[a]? = some c ∧ c.vm.isStatics = false := by
  obtain ⟨c, A, -⟩ := E; exact ⟨c, A.1, A.plain⟩
theorem own_sta_keep {Z : State} {h h' : Heap} {C n d : String} {v : Value} {ws : List Addr} (F : Sta Z h C n d v) (K : Keep h h' ws) (q : ∀ x ∈ ws, ∃ c : Cell, h[x]? = some c ∧ c.vm.isStatics = false) : Sta Z h' C n d v := by
  obtain ⟨cf, i, k, f, st, cell, h1, h2, h3, h4, h5, h6, h7⟩ := F
  refine ⟨cf, i, k, f, st, cell, h1, h2, h3, h4, K.2.1 _ _ h5 (fun hm => ?_), h6, h7⟩
  obtain ⟨c, e1, e2⟩ := q st hm
  cases h5.symm.trans e1
  rw [h6] at e2; cases e2
theorem own_ext_keep {h h' : Heap} (E : Ext h h') : Keep h h' [] := (Keep.refl h []).ext E
theorem own_keep_ext {h h' : Heap} (K : Keep h h' []) : Ext h h' := ⟨K.1, fun a c q => K.2.1 a c q nin0⟩
end OwnKit
theorem t_0 : (Jvm.Cond.constant "com/example/valtab/valtab/sign/SignMultiplyPinLaw" (25 : Nat) (2147483647 : Int32)) ∈ tables_1 := List.mem_of_getElem? (i := 0) rfl
theorem t_1 : (Jvm.Cond.methodLink "com/example/valtab/valtab/sign/SignMultiplyPinLaw" (26 : Nat) ({ cls := "com/example/valtab/valtab/sign/SignMultiplyPinLaw", name := "pick", desc := "(I)Lcom/example/valtab/valtab/sign/Sign;" } : Jvm.MethodName)) ∈ tables_1 := List.mem_of_getElem? (i := 1) rfl
theorem t_2 : (Jvm.Cond.static ({ cls := "com/example/valtab/valtab/sign/SignMultiplyPinLaw", name := "pick", desc := "(I)Lcom/example/valtab/valtab/sign/Sign;" } : Jvm.MethodName)) ∈ tables_1 := List.mem_of_getElem? (i := 2) rfl
theorem t_3 : (Jvm.Cond.initialized "com/example/valtab/valtab/sign/SignMultiplyPinLaw") ∈ tables_1 := List.mem_of_getElem? (i := 3) rfl
theorem t_4 : (Jvm.Cond.code ({ cls := "com/example/valtab/valtab/sign/SignMultiplyPinLaw", name := "pick", desc := "(I)Lcom/example/valtab/valtab/sign/Sign;" } : Jvm.MethodName) method_2_code (1 : Nat) (Option.some (Jvm.ClassFile.FieldType.object "com/example/valtab/valtab/sign/Sign"))) ∈ tables_1 := List.mem_of_getElem? (i := 4) rfl
theorem t_5 : (Jvm.Cond.fieldLink "com/example/valtab/valtab/sign/SignMultiplyPinLaw" (7 : Nat) "com/example/valtab/valtab/sign/Sign" "TOP" "Lcom/example/valtab/valtab/sign/Sign;") ∈ tables_1 := List.mem_of_getElem? (i := 5) rfl
theorem t_6 : (Jvm.Cond.initialized "com/example/valtab/valtab/sign/Sign") ∈ tables_1 := List.mem_of_getElem? (i := 6) rfl
theorem t_7 : (Jvm.Cond.laysStatic "com/example/valtab/valtab/sign/Sign" "TOP" "Lcom/example/valtab/valtab/sign/Sign;") ∈ tables_1 := List.mem_of_getElem? (i := 7) rfl
theorem t_8 : (Jvm.Cond.fieldLink "com/example/valtab/valtab/sign/SignMultiplyPinLaw" (19 : Nat) "com/example/valtab/valtab/sign/Sign" "POSITIVE" "Lcom/example/valtab/valtab/sign/Sign;") ∈ tables_1 := List.mem_of_getElem? (i := 8) rfl
theorem t_9 : (Jvm.Cond.laysStatic "com/example/valtab/valtab/sign/Sign" "POSITIVE" "Lcom/example/valtab/valtab/sign/Sign;") ∈ tables_1 := List.mem_of_getElem? (i := 9) rfl
theorem t_10 : (Jvm.Cond.methodLink "com/example/valtab/valtab/sign/SignMultiplyPinLaw" (32 : Nat) ({ cls := "com/example/valtab/valtab/sign/Sign", name := "multiply", desc := "(Lcom/example/valtab/valtab/sign/Sign;)Lcom/example/valtab/valtab/sign/Sign;" } : Jvm.MethodName)) ∈ tables_1 := List.mem_of_getElem? (i := 10) rfl
theorem t_11 : (Jvm.Cond.declares ({ cls := "com/example/valtab/valtab/sign/Sign", name := "multiply", desc := "(Lcom/example/valtab/valtab/sign/Sign;)Lcom/example/valtab/valtab/sign/Sign;" } : Jvm.MethodName)) ∈ tables_1 := List.mem_of_getElem? (i := 11) rfl
theorem t_12 : (Jvm.Cond.instanceMethod ({ cls := "com/example/valtab/valtab/sign/Sign", name := "multiply", desc := "(Lcom/example/valtab/valtab/sign/Sign;)Lcom/example/valtab/valtab/sign/Sign;" } : Jvm.MethodName)) ∈ tables_1 := List.mem_of_getElem? (i := 12) rfl
theorem t_13 : (Jvm.Cond.selects "com/example/valtab/valtab/sign/Sign" ({ cls := "com/example/valtab/valtab/sign/Sign", name := "multiply", desc := "(Lcom/example/valtab/valtab/sign/Sign;)Lcom/example/valtab/valtab/sign/Sign;" } : Jvm.MethodName) ({ cls := "com/example/valtab/valtab/sign/Sign", name := "multiply", desc := "(Lcom/example/valtab/valtab/sign/Sign;)Lcom/example/valtab/valtab/sign/Sign;" } : Jvm.MethodName)) ∈ tables_1 := List.mem_of_getElem? (i := 13) rfl
theorem t_14 : (Jvm.Cond.code ({ cls := "com/example/valtab/valtab/sign/Sign", name := "multiply", desc := "(Lcom/example/valtab/valtab/sign/Sign;)Lcom/example/valtab/valtab/sign/Sign;" } : Jvm.MethodName) prog_37_method_10_code (3 : Nat) (Option.some (Jvm.ClassFile.FieldType.object "com/example/valtab/valtab/sign/Sign"))) ∈ tables_1 := List.mem_of_getElem? (i := 14) rfl
theorem t_15 : (Jvm.Cond.fieldLink "com/example/valtab/valtab/sign/Sign" (3 : Nat) "com/example/valtab/valtab/sign/Sign" "TOP" "Lcom/example/valtab/valtab/sign/Sign;") ∈ tables_1 := List.mem_of_getElem? (i := 15) rfl
theorem t_16 : (Jvm.Cond.methodLink "com/example/valtab/valtab/sign/SignMultiplyPinLaw" (36 : Nat) ({ cls := "com/example/valtab/valtab/sign/SignMultiplyPinLaw", name := "expected", desc := "(II)Lcom/example/valtab/valtab/sign/Sign;" } : Jvm.MethodName)) ∈ tables_1 := List.mem_of_getElem? (i := 16) rfl
theorem t_17 : (Jvm.Cond.static ({ cls := "com/example/valtab/valtab/sign/SignMultiplyPinLaw", name := "expected", desc := "(II)Lcom/example/valtab/valtab/sign/Sign;" } : Jvm.MethodName)) ∈ tables_1 := List.mem_of_getElem? (i := 17) rfl
theorem t_18 : (Jvm.Cond.code ({ cls := "com/example/valtab/valtab/sign/SignMultiplyPinLaw", name := "expected", desc := "(II)Lcom/example/valtab/valtab/sign/Sign;" } : Jvm.MethodName) method_3_code (3 : Nat) (Option.some (Jvm.ClassFile.FieldType.object "com/example/valtab/valtab/sign/Sign"))) ∈ tables_1 := List.mem_of_getElem? (i := 18) rfl
theorem t_19 : (Jvm.Cond.fieldLink "com/example/valtab/valtab/sign/SignMultiplyPinLaw" (13 : Nat) "com/example/valtab/valtab/sign/Sign" "NEGATIVE" "Lcom/example/valtab/valtab/sign/Sign;") ∈ tables_1 := List.mem_of_getElem? (i := 19) rfl
theorem t_20 : (Jvm.Cond.laysStatic "com/example/valtab/valtab/sign/Sign" "NEGATIVE" "Lcom/example/valtab/valtab/sign/Sign;") ∈ tables_1 := List.mem_of_getElem? (i := 20) rfl
theorem t_21 : (Jvm.Cond.methodLink "com/example/valtab/valtab/sign/SignMultiplyPinLaw" (40 : Nat) ({ cls := "com/example/valtab/valtab/sign/Sign", name := "of", desc := "(J)Lcom/example/valtab/valtab/sign/Sign;" } : Jvm.MethodName)) ∈ tables_1 := List.mem_of_getElem? (i := 21) rfl
theorem t_22 : (Jvm.Cond.static ({ cls := "com/example/valtab/valtab/sign/Sign", name := "of", desc := "(J)Lcom/example/valtab/valtab/sign/Sign;" } : Jvm.MethodName)) ∈ tables_1 := List.mem_of_getElem? (i := 22) rfl
theorem t_23 : (Jvm.Cond.code ({ cls := "com/example/valtab/valtab/sign/Sign", name := "of", desc := "(J)Lcom/example/valtab/valtab/sign/Sign;" } : Jvm.MethodName) prog_37_method_4_code (3 : Nat) (Option.some (Jvm.ClassFile.FieldType.object "com/example/valtab/valtab/sign/Sign"))) ∈ tables_1 := List.mem_of_getElem? (i := 23) rfl
theorem t_24 : (Jvm.Cond.fieldLink "com/example/valtab/valtab/sign/Sign" (13 : Nat) "com/example/valtab/valtab/sign/Sign" "POSITIVE" "Lcom/example/valtab/valtab/sign/Sign;") ∈ tables_1 := List.mem_of_getElem? (i := 24) rfl
theorem t_25 : (Jvm.Cond.fieldLink "com/example/valtab/valtab/sign/Sign" (7 : Nat) "com/example/valtab/valtab/sign/Sign" "NEGATIVE" "Lcom/example/valtab/valtab/sign/Sign;") ∈ tables_1 := List.mem_of_getElem? (i := 25) rfl
theorem t_26 : (Jvm.Cond.fieldLink "com/example/valtab/valtab/sign/Sign" (10 : Nat) "com/example/valtab/valtab/sign/Sign" "ZERO" "Lcom/example/valtab/valtab/sign/Sign;") ∈ tables_1 := List.mem_of_getElem? (i := 26) rfl
theorem t_27 : (Jvm.Cond.laysStatic "com/example/valtab/valtab/sign/Sign" "ZERO" "Lcom/example/valtab/valtab/sign/Sign;") ∈ tables_1 := List.mem_of_getElem? (i := 27) rfl
theorem t_28 : (Jvm.Cond.fieldLink "com/example/valtab/valtab/sign/Sign" (16 : Nat) "com/example/valtab/valtab/sign/Sign" "BOTTOM" "Lcom/example/valtab/valtab/sign/Sign;") ∈ tables_1 := List.mem_of_getElem? (i := 28) rfl
theorem t_29 : (Jvm.Cond.laysStatic "com/example/valtab/valtab/sign/Sign" "BOTTOM" "Lcom/example/valtab/valtab/sign/Sign;") ∈ tables_1 := List.mem_of_getElem? (i := 29) rfl
theorem t_30 : (Jvm.Cond.fieldLink "com/example/valtab/valtab/sign/SignMultiplyPinLaw" (22 : Nat) "com/example/valtab/valtab/sign/Sign" "BOTTOM" "Lcom/example/valtab/valtab/sign/Sign;") ∈ tables_1 := List.mem_of_getElem? (i := 30) rfl
theorem t_31 : (Jvm.Cond.fieldLink "com/example/valtab/valtab/sign/SignMultiplyPinLaw" (16 : Nat) "com/example/valtab/valtab/sign/Sign" "ZERO" "Lcom/example/valtab/valtab/sign/Sign;") ∈ tables_1 := List.mem_of_getElem? (i := 31) rfl
theorem n1_0 : In method_2_code 0 (.iload_n 0) 1 1 := ⟨by decide +kernel, rfl⟩
theorem n1_1 : Jm method_2_code 1 (.ifCond .ne 7) 7 4 8 := ⟨by decide +kernel, rfl, by decide, by decide⟩
theorem n1_8 : In method_2_code 8 (.iload_n 0) 1 9 := ⟨by decide +kernel, rfl⟩
theorem n1_9 : In method_2_code 9 (.iconst 1) 1 10 := ⟨by decide +kernel, rfl⟩
theorem n1_10 : Jm method_2_code 10 (.if_icmp .ne 7) 7 13 17 := ⟨by decide +kernel, rfl, by decide, by decide⟩
theorem n1_17 : In method_2_code 17 (.iload_n 0) 1 18 := ⟨by decide +kernel, rfl⟩
theorem n1_18 : In method_2_code 18 (.iconst 2) 1 19 := ⟨by decide +kernel, rfl⟩
theorem n1_19 : Jm method_2_code 19 (.if_icmp .ne 7) 7 22 26 := ⟨by decide +kernel, rfl, by decide, by decide⟩
theorem n1_26 : In method_2_code 26 (.iload_n 0) 1 27 := ⟨by decide +kernel, rfl⟩
theorem n1_27 : In method_2_code 27 (.iconst 3) 1 28 := ⟨by decide +kernel, rfl⟩
theorem n1_28 : Jm method_2_code 28 (.if_icmp .ne 7) 7 31 35 := ⟨by decide +kernel, rfl, by decide, by decide⟩
theorem n1_35 : In method_2_code 35 (.getstatic 22) 3 38 := ⟨by decide +kernel, rfl⟩
theorem n1_38 : In method_2_code 38 (.areturn) 1 39 := ⟨by decide +kernel, rfl⟩
theorem n1_31 : In method_2_code 31 (.getstatic 19) 3 34 := ⟨by decide +kernel, rfl⟩
theorem n1_34 : In method_2_code 34 (.areturn) 1 35 := ⟨by decide +kernel, rfl⟩
theorem n1_22 : In method_2_code 22 (.getstatic 16) 3 25 := ⟨by decide +kernel, rfl⟩
theorem n1_25 : In method_2_code 25 (.areturn) 1 26 := ⟨by decide +kernel, rfl⟩
theorem n1_13 : In method_2_code 13 (.getstatic 13) 3 16 := ⟨by decide +kernel, rfl⟩
theorem n1_16 : In method_2_code 16 (.areturn) 1 17 := ⟨by decide +kernel, rfl⟩
theorem n1_4 : In method_2_code 4 (.getstatic 7) 3 7 := ⟨by decide +kernel, rfl⟩
theorem n1_7 : In method_2_code 7 (.areturn) 1 8 := ⟨by decide +kernel, rfl⟩
theorem pn_1 : plainFor (⟨"com/example/valtab/valtab/sign/SignMultiplyPinLaw", "pick", "(I)Lcom/example/valtab/valtab/sign/Sign;"⟩ : MethodName) = true := plainFor_of_name (by first | (simp [plainName, overriddenIn]; done) | decide +kernel)
theorem n2_0 : In prog_37_method_10_code 0 (.aload_n 0) 1 1 := ⟨by decide +kernel, rfl⟩
theorem n2_1 : In prog_37_method_10_code 1 (.getstatic 3) 3 4 := ⟨by decide +kernel, rfl⟩
theorem n2_4 : Jm prog_37_method_10_code 4 (.if_acmp .eq 10) 10 7 14 := ⟨by decide +kernel, rfl, by decide, by decide⟩
theorem n2_14 : In prog_37_method_10_code 14 (.getstatic 3) 3 17 := ⟨by decide +kernel, rfl⟩
theorem n2_17 : In prog_37_method_10_code 17 (.astore_n 2) 1 18 := ⟨by decide +kernel, rfl⟩
theorem n2_18 : Jm prog_37_method_10_code 18 (.goto 61) 61 21 79 := ⟨by decide +kernel, rfl, by decide, by decide⟩
theorem n2_79 : In prog_37_method_10_code 79 (.aload_n 2) 1 80 := ⟨by decide +kernel, rfl⟩
theorem n2_80 : In prog_37_method_10_code 80 (.areturn) 1 81 := ⟨by decide +kernel, rfl⟩
theorem n2_7 : In prog_37_method_10_code 7 (.aload_n 1) 1 8 := ⟨by decide +kernel, rfl⟩
theorem n2_8 : In prog_37_method_10_code 8 (.getstatic 3) 3 11 := ⟨by decide +kernel, rfl⟩
theorem n2_11 : Jm prog_37_method_10_code 11 (.if_acmp .ne 10) 10 14 21 := ⟨by decide +kernel, rfl, by decide, by decide⟩
theorem n2_21 : In prog_37_method_10_code 21 (.aload_n 0) 1 22 := ⟨by decide +kernel, rfl⟩
theorem n2_22 : In prog_37_method_10_code 22 (.getstatic 10) 3 25 := ⟨by decide +kernel, rfl⟩
theorem n2_25 : Jm prog_37_method_10_code 25 (.if_acmp .eq 10) 10 28 35 := ⟨by decide +kernel, rfl, by decide, by decide⟩
theorem n2_35 : In prog_37_method_10_code 35 (.getstatic 10) 3 38 := ⟨by decide +kernel, rfl⟩
theorem n2_38 : In prog_37_method_10_code 38 (.astore_n 2) 1 39 := ⟨by decide +kernel, rfl⟩
theorem n2_39 : Jm prog_37_method_10_code 39 (.goto 40) 40 42 79 := ⟨by decide +kernel, rfl, by decide, by decide⟩
theorem n2_28 : In prog_37_method_10_code 28 (.aload_n 1) 1 29 := ⟨by decide +kernel, rfl⟩
theorem n2_29 : In prog_37_method_10_code 29 (.getstatic 10) 3 32 := ⟨by decide +kernel, rfl⟩
theorem n2_32 : Jm prog_37_method_10_code 32 (.if_acmp .ne 10) 10 35 42 := ⟨by decide +kernel, rfl, by decide, by decide⟩
theorem n2_42 : In prog_37_method_10_code 42 (.aload_n 0) 1 43 := ⟨by decide +kernel, rfl⟩
theorem n2_43 : In prog_37_method_10_code 43 (.getstatic 16) 3 46 := ⟨by decide +kernel, rfl⟩
theorem n2_46 : Jm prog_37_method_10_code 46 (.if_acmp .eq 10) 10 49 56 := ⟨by decide +kernel, rfl, by decide, by decide⟩
theorem n2_56 : In prog_37_method_10_code 56 (.getstatic 16) 3 59 := ⟨by decide +kernel, rfl⟩
theorem n2_59 : In prog_37_method_10_code 59 (.astore_n 2) 1 60 := ⟨by decide +kernel, rfl⟩
theorem n2_60 : Jm prog_37_method_10_code 60 (.goto 19) 19 63 79 := ⟨by decide +kernel, rfl, by decide, by decide⟩
theorem n2_49 : In prog_37_method_10_code 49 (.aload_n 1) 1 50 := ⟨by decide +kernel, rfl⟩
theorem n2_50 : In prog_37_method_10_code 50 (.getstatic 16) 3 53 := ⟨by decide +kernel, rfl⟩
theorem n2_53 : Jm prog_37_method_10_code 53 (.if_acmp .ne 10) 10 56 63 := ⟨by decide +kernel, rfl, by decide, by decide⟩
theorem n2_63 : In prog_37_method_10_code 63 (.aload_n 0) 1 64 := ⟨by decide +kernel, rfl⟩
theorem n2_64 : In prog_37_method_10_code 64 (.aload_n 1) 1 65 := ⟨by decide +kernel, rfl⟩
theorem n2_65 : Jm prog_37_method_10_code 65 (.if_acmp .ne 10) 10 68 75 := ⟨by decide +kernel, rfl, by decide, by decide⟩
theorem n2_75 : In prog_37_method_10_code 75 (.getstatic 7) 3 78 := ⟨by decide +kernel, rfl⟩
theorem n2_78 : In prog_37_method_10_code 78 (.astore_n 2) 1 79 := ⟨by decide +kernel, rfl⟩
theorem n2_68 : In prog_37_method_10_code 68 (.getstatic 13) 3 71 := ⟨by decide +kernel, rfl⟩
theorem n2_71 : In prog_37_method_10_code 71 (.astore_n 2) 1 72 := ⟨by decide +kernel, rfl⟩
theorem n2_72 : Jm prog_37_method_10_code 72 (.goto 7) 7 75 79 := ⟨by decide +kernel, rfl, by decide, by decide⟩
theorem pn_2 : plainFor (⟨"com/example/valtab/valtab/sign/Sign", "multiply", "(Lcom/example/valtab/valtab/sign/Sign;)Lcom/example/valtab/valtab/sign/Sign;"⟩ : MethodName) = true := plainFor_of_name (by first | (simp [plainName, overriddenIn]; done) | decide +kernel)
theorem n3_0 : In method_3_code 0 (.iload_n 0) 1 1 := ⟨by decide +kernel, rfl⟩
theorem n3_1 : Jm method_3_code 1 (.ifCond .eq 7) 7 4 8 := ⟨by decide +kernel, rfl, by decide, by decide⟩
theorem n3_8 : In method_3_code 8 (.getstatic 7) 3 11 := ⟨by decide +kernel, rfl⟩
theorem n3_11 : In method_3_code 11 (.areturn) 1 12 := ⟨by decide +kernel, rfl⟩
theorem n3_4 : In method_3_code 4 (.iload_n 1) 1 5 := ⟨by decide +kernel, rfl⟩
theorem n3_5 : Jm method_3_code 5 (.ifCond .ne 7) 7 8 12 := ⟨by decide +kernel, rfl, by decide, by decide⟩
theorem n3_12 : In method_3_code 12 (.iload_n 0) 1 13 := ⟨by decide +kernel, rfl⟩
theorem n3_13 : In method_3_code 13 (.iconst 2) 1 14 := ⟨by decide +kernel, rfl⟩
theorem n3_14 : Jm method_3_code 14 (.if_icmp .eq 8) 8 17 22 := ⟨by decide +kernel, rfl, by decide, by decide⟩
theorem n3_22 : In method_3_code 22 (.getstatic 16) 3 25 := ⟨by decide +kernel, rfl⟩
theorem n3_25 : In method_3_code 25 (.areturn) 1 26 := ⟨by decide +kernel, rfl⟩
theorem n3_17 : In method_3_code 17 (.iload_n 1) 1 18 := ⟨by decide +kernel, rfl⟩
theorem n3_18 : In method_3_code 18 (.iconst 2) 1 19 := ⟨by decide +kernel, rfl⟩
theorem n3_19 : Jm method_3_code 19 (.if_icmp .ne 7) 7 22 26 := ⟨by decide +kernel, rfl, by decide, by decide⟩
theorem n3_26 : In method_3_code 26 (.iload_n 0) 1 27 := ⟨by decide +kernel, rfl⟩
theorem n3_27 : In method_3_code 27 (.iconst 4) 1 28 := ⟨by decide +kernel, rfl⟩
theorem n3_28 : Jm method_3_code 28 (.if_icmp .eq 8) 8 31 36 := ⟨by decide +kernel, rfl, by decide, by decide⟩
theorem n3_36 : In method_3_code 36 (.getstatic 22) 3 39 := ⟨by decide +kernel, rfl⟩
theorem n3_39 : In method_3_code 39 (.areturn) 1 40 := ⟨by decide +kernel, rfl⟩
theorem n3_31 : In method_3_code 31 (.iload_n 1) 1 32 := ⟨by decide +kernel, rfl⟩
theorem n3_32 : In method_3_code 32 (.iconst 4) 1 33 := ⟨by decide +kernel, rfl⟩
theorem n3_33 : Jm method_3_code 33 (.if_icmp .ne 7) 7 36 40 := ⟨by decide +kernel, rfl, by decide, by decide⟩
theorem n3_40 : In method_3_code 40 (.iload_n 0) 1 41 := ⟨by decide +kernel, rfl⟩
theorem n3_41 : In method_3_code 41 (.iconst 2) 1 42 := ⟨by decide +kernel, rfl⟩
theorem n3_42 : In method_3_code 42 (.isub) 1 43 := ⟨by decide +kernel, rfl⟩
theorem n3_43 : In method_3_code 43 (.iload_n 1) 1 44 := ⟨by decide +kernel, rfl⟩
theorem n3_44 : In method_3_code 44 (.iconst 2) 1 45 := ⟨by decide +kernel, rfl⟩
theorem n3_45 : In method_3_code 45 (.isub) 1 46 := ⟨by decide +kernel, rfl⟩
theorem n3_46 : In method_3_code 46 (.imul) 1 47 := ⟨by decide +kernel, rfl⟩
theorem n3_47 : In method_3_code 47 (.istore_n 2) 1 48 := ⟨by decide +kernel, rfl⟩
theorem n3_48 : In method_3_code 48 (.iload_n 2) 1 49 := ⟨by decide +kernel, rfl⟩
theorem n3_49 : Jm method_3_code 49 (.ifCond .le 7) 7 52 56 := ⟨by decide +kernel, rfl, by decide, by decide⟩
theorem n3_56 : In method_3_code 56 (.getstatic 13) 3 59 := ⟨by decide +kernel, rfl⟩
theorem n3_59 : In method_3_code 59 (.areturn) 1 60 := ⟨by decide +kernel, rfl⟩
theorem n3_52 : In method_3_code 52 (.getstatic 19) 3 55 := ⟨by decide +kernel, rfl⟩
theorem n3_55 : In method_3_code 55 (.areturn) 1 56 := ⟨by decide +kernel, rfl⟩
theorem pn_3 : plainFor (⟨"com/example/valtab/valtab/sign/SignMultiplyPinLaw", "expected", "(II)Lcom/example/valtab/valtab/sign/Sign;"⟩ : MethodName) = true := plainFor_of_name (by first | (simp [plainName, overriddenIn]; done) | decide +kernel)
theorem n4_0 : In prog_37_method_4_code 0 (.lload_n 0) 1 1 := ⟨by decide +kernel, rfl⟩
theorem n4_1 : In prog_37_method_4_code 1 (.lconst 0) 1 2 := ⟨by decide +kernel, rfl⟩
theorem n4_2 : In prog_37_method_4_code 2 (.lcmp) 1 3 := ⟨by decide +kernel, rfl⟩
theorem n4_3 : Jm prog_37_method_4_code 3 (.ifCond .ge 10) 10 6 13 := ⟨by decide +kernel, rfl, by decide, by decide⟩
theorem n4_13 : In prog_37_method_4_code 13 (.lload_n 0) 1 14 := ⟨by decide +kernel, rfl⟩
theorem n4_14 : In prog_37_method_4_code 14 (.lconst 0) 1 15 := ⟨by decide +kernel, rfl⟩
theorem n4_15 : In prog_37_method_4_code 15 (.lcmp) 1 16 := ⟨by decide +kernel, rfl⟩
theorem n4_16 : Jm prog_37_method_4_code 16 (.ifCond .ne 10) 10 19 26 := ⟨by decide +kernel, rfl, by decide, by decide⟩
theorem n4_26 : In prog_37_method_4_code 26 (.getstatic 13) 3 29 := ⟨by decide +kernel, rfl⟩
theorem n4_29 : In prog_37_method_4_code 29 (.astore_n 2) 1 30 := ⟨by decide +kernel, rfl⟩
theorem n4_30 : In prog_37_method_4_code 30 (.aload_n 2) 1 31 := ⟨by decide +kernel, rfl⟩
theorem n4_31 : In prog_37_method_4_code 31 (.areturn) 1 32 := ⟨by decide +kernel, rfl⟩
theorem n4_19 : In prog_37_method_4_code 19 (.getstatic 10) 3 22 := ⟨by decide +kernel, rfl⟩
theorem n4_22 : In prog_37_method_4_code 22 (.astore_n 2) 1 23 := ⟨by decide +kernel, rfl⟩
theorem n4_23 : Jm prog_37_method_4_code 23 (.goto 7) 7 26 30 := ⟨by decide +kernel, rfl, by decide, by decide⟩
theorem n4_6 : In prog_37_method_4_code 6 (.getstatic 7) 3 9 := ⟨by decide +kernel, rfl⟩
theorem n4_9 : In prog_37_method_4_code 9 (.astore_n 2) 1 10 := ⟨by decide +kernel, rfl⟩
theorem n4_10 : Jm prog_37_method_4_code 10 (.goto 20) 20 13 30 := ⟨by decide +kernel, rfl, by decide, by decide⟩
theorem pn_4 : plainFor (⟨"com/example/valtab/valtab/sign/Sign", "of", "(J)Lcom/example/valtab/valtab/sign/Sign;"⟩ : MethodName) = true := plainFor_of_name (by first | (simp [plainName, overriddenIn]; done) | decide +kernel)
theorem n0_0 : In code 0 (.iload_n 0) 1 1 := ⟨at_0, rfl⟩
theorem n0_1 : In code 1 (.ldc 25) 2 3 := ⟨at_1, rfl⟩
theorem n0_3 : In code 3 (.iand) 1 4 := ⟨at_3, rfl⟩
theorem n0_4 : In code 4 (.iconst 5) 1 5 := ⟨at_4, rfl⟩
theorem n0_5 : In code 5 (.irem) 1 6 := ⟨at_5, rfl⟩
theorem n0_6 : In code 6 (.istore 6) 2 8 := ⟨at_6, rfl⟩
theorem n0_8 : In code 8 (.iload_n 1) 1 9 := ⟨at_8, rfl⟩
theorem n0_9 : In code 9 (.ldc 25) 2 11 := ⟨at_9, rfl⟩
theorem n0_11 : In code 11 (.iand) 1 12 := ⟨at_11, rfl⟩
theorem n0_12 : In code 12 (.iconst 5) 1 13 := ⟨at_12, rfl⟩
theorem n0_13 : In code 13 (.irem) 1 14 := ⟨at_13, rfl⟩
theorem n0_14 : In code 14 (.istore 7) 2 16 := ⟨at_14, rfl⟩
theorem n0_16 : In code 16 (.iload 6) 2 18 := ⟨at_16, rfl⟩
theorem n0_18 : In code 18 (.invokestatic 26) 3 21 := ⟨at_18, rfl⟩
theorem pd_99499 : parseMethodDescriptor "(I)Lcom/example/valtab/valtab/sign/Sign;" = some ⟨[.int], some (.object "com/example/valtab/valtab/sign/Sign")⟩ := by decide +kernel
theorem n0_21 : In code 21 (.iload 7) 2 23 := ⟨at_21, rfl⟩
theorem n0_23 : In code 23 (.invokestatic 26) 3 26 := ⟨at_23, rfl⟩
theorem n0_26 : In code 26 (.invokevirtual 32) 3 29 := ⟨at_26, rfl⟩
theorem pd_318983 : parseMethodDescriptor "(Lcom/example/valtab/valtab/sign/Sign;)Lcom/example/valtab/valtab/sign/Sign;" = some ⟨[(.object "com/example/valtab/valtab/sign/Sign")], some (.object "com/example/valtab/valtab/sign/Sign")⟩ := by decide +kernel
theorem n0_29 : In code 29 (.astore 8) 2 31 := ⟨at_29, rfl⟩
theorem n0_31 : In code 31 (.aload 8) 2 33 := ⟨at_31, rfl⟩
theorem n0_33 : In code 33 (.iload 6) 2 35 := ⟨at_33, rfl⟩
theorem n0_35 : In code 35 (.iload 7) 2 37 := ⟨at_35, rfl⟩
theorem n0_37 : In code 37 (.invokestatic 36) 3 40 := ⟨at_37, rfl⟩
theorem pd_103736 : parseMethodDescriptor "(II)Lcom/example/valtab/valtab/sign/Sign;" = some ⟨[.int, .int], some (.object "com/example/valtab/valtab/sign/Sign")⟩ := by decide +kernel
theorem n0_40 : Jm code 40 (.if_acmp .ne 7) 7 43 47 := ⟨at_40, rfl, by decide, by decide⟩
theorem n0_43 : In code 43 (.iconst 1) 1 44 := ⟨at_43, rfl⟩
theorem n0_44 : Jm code 44 (.goto 4) 4 47 48 := ⟨at_44, rfl, by decide, by decide⟩
theorem n0_48 : In code 48 (.istore 9) 2 50 := ⟨at_48, rfl⟩
theorem n0_50 : In code 50 (.lload_n 2) 1 51 := ⟨at_50, rfl⟩
theorem n0_51 : In code 51 (.lconst 0) 1 52 := ⟨at_51, rfl⟩
theorem n0_52 : In code 52 (.lcmp) 1 53 := ⟨at_52, rfl⟩
theorem n0_53 : Jm code 53 (.ifCond .eq 10) 10 56 63 := ⟨at_53, rfl, by decide, by decide⟩
theorem n0_63 : In code 63 (.getstatic 16) 3 66 := ⟨at_63, rfl⟩
theorem n0_66 : In code 66 (.astore 10) 2 68 := ⟨at_66, rfl⟩
theorem n0_68 : Jm code 68 (.goto 42) 42 71 110 := ⟨at_68, rfl, by decide, by decide⟩
theorem n0_110 : In code 110 (.lload_n 2) 1 111 := ⟨at_110, rfl⟩
theorem n0_111 : In code 111 (.invokestatic 40) 3 114 := ⟨at_111, rfl⟩
theorem pd_99507 : parseMethodDescriptor "(J)Lcom/example/valtab/valtab/sign/Sign;" = some ⟨[.long], some (.object "com/example/valtab/valtab/sign/Sign")⟩ := by decide +kernel
theorem n0_114 : In code 114 (.lload 4) 2 116 := ⟨at_114, rfl⟩
theorem n0_116 : In code 116 (.invokestatic 40) 3 119 := ⟨at_116, rfl⟩
theorem n0_119 : In code 119 (.invokevirtual 32) 3 122 := ⟨at_119, rfl⟩
theorem n0_122 : In code 122 (.aload 10) 2 124 := ⟨at_122, rfl⟩
theorem n0_124 : Jm code 124 (.if_acmp .ne 7) 7 127 131 := ⟨at_124, rfl, by decide, by decide⟩
theorem n0_127 : In code 127 (.iconst 1) 1 128 := ⟨at_127, rfl⟩
theorem n0_128 : Jm code 128 (.goto 4) 4 131 132 := ⟨at_128, rfl, by decide, by decide⟩
theorem n0_132 : In code 132 (.istore 11) 2 134 := ⟨at_132, rfl⟩
theorem n0_134 : In code 134 (.iload 9) 2 136 := ⟨at_134, rfl⟩
theorem n0_136 : Jm code 136 (.ifCond .eq 12) 12 139 148 := ⟨at_136, rfl, by decide, by decide⟩
theorem n0_139 : In code 139 (.iload 11) 2 141 := ⟨at_139, rfl⟩
theorem n0_141 : Jm code 141 (.ifCond .eq 7) 7 144 148 := ⟨at_141, rfl, by decide, by decide⟩
theorem n0_144 : In code 144 (.iconst 1) 1 145 := ⟨at_144, rfl⟩
theorem n0_145 : Jm code 145 (.goto 4) 4 148 149 := ⟨at_145, rfl, by decide, by decide⟩
theorem n0_149 : In code 149 (.ireturn) 1 150 := ⟨at_149, rfl⟩
theorem n0_56 : In code 56 (.lload 4) 2 58 := ⟨at_56, rfl⟩
theorem n0_58 : In code 58 (.lconst 0) 1 59 := ⟨at_58, rfl⟩
theorem n0_59 : In code 59 (.lcmp) 1 60 := ⟨at_59, rfl⟩
theorem n0_60 : Jm code 60 (.ifCond .ne 11) 11 63 71 := ⟨at_60, rfl, by decide, by decide⟩
theorem n0_71 : In code 71 (.lload_n 2) 1 72 := ⟨at_71, rfl⟩
theorem n0_72 : In code 72 (.lconst 0) 1 73 := ⟨at_72, rfl⟩
theorem n0_73 : In code 73 (.lcmp) 1 74 := ⟨at_73, rfl⟩
theorem n0_74 : Jm code 74 (.ifCond .ge 7) 7 77 81 := ⟨at_74, rfl, by decide, by decide⟩
theorem n0_81 : In code 81 (.iconst 0) 1 82 := ⟨at_81, rfl⟩
theorem n0_82 : In code 82 (.lload 4) 2 84 := ⟨at_82, rfl⟩
theorem n0_84 : In code 84 (.lconst 0) 1 85 := ⟨at_84, rfl⟩
theorem n0_85 : In code 85 (.lcmp) 1 86 := ⟨at_85, rfl⟩
theorem n0_86 : Jm code 86 (.ifCond .ge 7) 7 89 93 := ⟨at_86, rfl, by decide, by decide⟩
theorem n0_93 : In code 93 (.iconst 0) 1 94 := ⟨at_93, rfl⟩
theorem n0_94 : Jm code 94 (.if_icmp .ne 11) 11 97 105 := ⟨at_94, rfl, by decide, by decide⟩
theorem n0_97 : In code 97 (.getstatic 19) 3 100 := ⟨at_97, rfl⟩
theorem n0_100 : In code 100 (.astore 10) 2 102 := ⟨at_100, rfl⟩
theorem n0_102 : Jm code 102 (.goto 8) 8 105 110 := ⟨at_102, rfl, by decide, by decide⟩
theorem n0_89 : In code 89 (.iconst 1) 1 90 := ⟨at_89, rfl⟩
theorem n0_90 : Jm code 90 (.goto 4) 4 93 94 := ⟨at_90, rfl, by decide, by decide⟩
theorem n0_105 : In code 105 (.getstatic 13) 3 108 := ⟨at_105, rfl⟩
theorem n0_108 : In code 108 (.astore 10) 2 110 := ⟨at_108, rfl⟩
theorem n0_77 : In code 77 (.iconst 1) 1 78 := ⟨at_77, rfl⟩
theorem n0_78 : Jm code 78 (.goto 4) 4 81 82 := ⟨at_78, rfl, by decide, by decide⟩
theorem pn_0 : plainFor (⟨"com/example/valtab/valtab/sign/SignMultiplyPinLaw", "law", "(IIJJ)Z"⟩ : MethodName) = true := plainFor_of_name (by first | (simp [plainName, overriddenIn]; done) | decide +kernel)
theorem own_eqI {t : Term} {k : Int32} {args : Array Value} {s : State} (h : (Cond.eq t (.int k)).value args s none s [] = some true) : t.eval args s none [] s = some (.int k) := by
  obtain ⟨x, y, h1, h2, h3, -⟩ := cmp_v (Or.inl h)
  cases (Option.some.inj h2 : (Value.int k) = y)
  cases x <;> first | (have := gotT (Cond.eq_ints h1 h2) h; rw [h1, this]; done) | (simp [Kin, Value.isRef] at h3; done)
theorem own_eqL {t : Term} {k : Int64} {args : Array Value} {s : State} (h : (Cond.eq t (.long k)).value args s none s [] = some true) : t.eval args s none [] s = some (.long k) := by
  obtain ⟨x, y, h1, h2, h3, -⟩ := cmp_v (Or.inl h)
  cases (Option.some.inj h2 : (Value.long k) = y)
  cases x <;> first | (have := gotT (eq_L h1 h2) h; rw [h1, this]; done) | (simp [Kin, Value.isRef] at h3; done)
theorem own_eqR {a b : Term} {y : Addr} {args : Array Value} {s : State} (h : (Cond.eq a b).value args s none s [] = some true) (hb : b.eval args s none [] s = some (.ref y)) : a.eval args s none [] s = some (.ref y) := by
  obtain ⟨x, y', h1, h2, h3, h4⟩ := cmp_v (Or.inl h)
  cases h2.symm.trans hb
  have hx : x.isRef = true := h4.2
  have := gotT (eq_R h1 h2 hx rfl) h
  rw [h1, this]
theorem own_nar1 : nar .boolean 1 = 1 := rfl
theorem own_nar0 : nar .boolean 0 = 0 := rfl
def own_pk (tp ng ze po bo : Addr) (k : Int32) : Addr := if k = 0 then tp else if k = 1 then ng else if k = 2 then ze else if k = 3 then po else bo
def own_mul (tp ng ze po bo x y : Addr) : Addr := if x = tp then tp else if y = tp then tp else if x = ze then ze else if y = ze then ze else if x = bo then bo else if y = bo then bo else if x = y then po else ng
def own_ex (tp ng ze po bo : Addr) (i j : Int32) : Addr := if i = 0 then tp else if j = 0 then tp else if i = 2 then ze else if j = 2 then ze else if i = 4 then bo else if j = 4 then bo else if 0 < (i - 2) * (j - 2) then po else ng
def own_of (ng ze po : Addr) (a : Int64) : Addr := if a < 0 then ng else if a = 0 then ze else po
theorem own_pk_exa {Z : State} {h : Heap} {tp ng ze po bo : Addr} {K : String} (h0 : Exa Z h tp K) (h1 : Exa Z h ng K) (h2 : Exa Z h ze K) (h3 : Exa Z h po K) (h4 : Exa Z h bo K) (k : Int32) : Exa Z h (own_pk tp ng ze po bo k) K := by
  unfold own_pk; (repeat' split) <;> assumption
theorem own_of_exa {Z : State} {h : Heap} {ng ze po : Addr} {K : String} (h1 : Exa Z h ng K) (h2 : Exa Z h ze K) (h3 : Exa Z h po K) (k : Int64) : Exa Z h (own_of ng ze po k) K := by
  unfold own_of; (repeat' split) <;> assumption
theorem own_five (x : Int32) : (x &&& 2147483647) % 5 = 0 ∨ (x &&& 2147483647) % 5 = 1 ∨ (x &&& 2147483647) % 5 = 2 ∨ (x &&& 2147483647) % 5 = 3 ∨ (x &&& 2147483647) % 5 = 4 := by
  have h1 := c_mask x 2147483647 31 (by decide) (by decide)
  have h2 := (c_irem (x &&& 2147483647) 5 5 (by decide)).1 (by rw [h1]; omega)
  have e : ∀ k : Int32, (x &&& 2147483647) % 5 = k ↔ ((x &&& 2147483647) % 5).toInt = k.toInt := fun k => Int32.toInt_inj.symm
  rw [e, e, e, e, e, h2]
  have k0 : (0 : Int32).toInt = 0 := by decide
  have k1 : (1 : Int32).toInt = 1 := by decide
  have k2 : (2 : Int32).toInt = 2 := by decide
  have k3 : (3 : Int32).toInt = 3 := by decide
  have k4 : (4 : Int32).toInt = 4 := by decide
  omega
def own_diff (tp ng ze po bo : Addr) : Prop := tp ≠ ng ∧ tp ≠ ze ∧ tp ≠ po ∧ tp ≠ bo ∧ ng ≠ ze ∧ ng ≠ po ∧ ng ≠ bo ∧ ze ≠ po ∧ ze ≠ bo ∧ po ≠ bo
theorem own_table {tp ng ze po bo : Addr} (d : own_diff tp ng ze po bo) (x y : Int32) : own_mul tp ng ze po bo (own_pk tp ng ze po bo ((x &&& 2147483647) % 5)) (own_pk tp ng ze po bo ((y &&& 2147483647) % 5)) = own_ex tp ng ze po bo ((x &&& 2147483647) % 5) ((y &&& 2147483647) % 5) := by
  obtain ⟨d1, d2, d3, d4, d5, d6, d7, d8, d9, d10⟩ := d
  have hx := own_five x
  have hy := own_five y
  generalize (x &&& 2147483647) % 5 = i at *
  generalize (y &&& 2147483647) % 5 = j at *
  rcases hx with rfl | rfl | rfl | rfl | rfl <;> rcases hy with rfl | rfl | rfl | rfl | rfl <;> simp [own_mul, own_pk, own_ex, d1, d2, d3, d4, d5, d6, d7, d8, d9, d10, d1.symm, d2.symm, d3.symm, d4.symm, d5.symm, d6.symm, d7.symm, d8.symm, d9.symm, d10.symm]
def own_exact (ng ze po : Addr) (a b : Int64) : Addr := if a = 0 then ze else if b = 0 then ze else if a < 0 then (if b < 0 then po else ng) else (if b < 0 then ng else po)
theorem own_sound {tp ng ze po bo : Addr} (d : own_diff tp ng ze po bo) (a b : Int64) : own_mul tp ng ze po bo (own_of ng ze po a) (own_of ng ze po b) = own_exact ng ze po a b := by
  obtain ⟨d1, d2, d3, d4, d5, d6, d7, d8, d9, d10⟩ := d
  have z : ∀ k : Int64, k < 0 → ¬ k = 0 := fun k h q => by subst q; exact absurd h (by decide)
  unfold own_of own_exact
  by_cases ha : a < 0 <;> by_cases hb : b < 0 <;> by_cases ga : a = 0 <;> by_cases gb : b = 0 <;> first | (exact absurd ga (z _ ha)) | (exact absurd gb (z _ hb)) | simp [ha, hb, ga, gb, own_mul, d1, d2, d3, d4, d5, d6, d7, d8, d9, d10, d1.symm, d2.symm, d3.symm, d4.symm, d5.symm, d6.symm, d7.symm, d8.symm, d9.symm, d10.symm]

set_option maxRecDepth 65536 in
set_option maxHeartbeats 4000000 in
theorem ef_rm1 (m : MethodId) (x0 : Int32) : entryFrame m #[(.int x0)] 1 = mkF m 0 #[.val (.int x0)] [] := by first | (simp [entryFrame, mkF, argsToLocals, Value.category]; done) | rfl
set_option maxRecDepth 65536 in
set_option maxHeartbeats 40000000 in
theorem rm1 (l : Launch) (Z : State) (a0 : Array Value) (hw : ∀ d ∈ tables_1, d.before a0 Z = true) (tp ng ze po bo : Addr) (k1 : Int32) (h0 : Heap) (S_TOP : Sta Z h0 "com/example/valtab/valtab/sign/Sign" "TOP" "Lcom/example/valtab/valtab/sign/Sign;" (.ref tp)) (S_NEGATIVE : Sta Z h0 "com/example/valtab/valtab/sign/Sign" "NEGATIVE" "Lcom/example/valtab/valtab/sign/Sign;" (.ref ng)) (S_ZERO : Sta Z h0 "com/example/valtab/valtab/sign/Sign" "ZERO" "Lcom/example/valtab/valtab/sign/Sign;" (.ref ze)) (S_POSITIVE : Sta Z h0 "com/example/valtab/valtab/sign/Sign" "POSITIVE" "Lcom/example/valtab/valtab/sign/Sign;" (.ref po)) (S_BOTTOM : Sta Z h0 "com/example/valtab/valtab/sign/Sign" "BOTTOM" "Lcom/example/valtab/valtab/sign/Sign;" (.ref bo)) : Con l Z (⟨"com/example/valtab/valtab/sign/SignMultiplyPinLaw", "pick", "(I)Lcom/example/valtab/valtab/sign/Sign;"⟩ : MethodName) method_2_code 1 (some (.object "com/example/valtab/valtab/sign/Sign")) ({ frames := 0, cells := 0, slots := 0, locals := 0 } : Room) #[(.int k1)] h0 (fun v h L => v = some (.ref (own_pk tp ng ze po bo k1)) ∧ h = h0 ∧ L = []) := by
  refine w_body (Ls := #[.val (.int k1)]) pn_1 (fun m => ef_rm1 m k1) ?_
  intro p e s m below meth c T0 X0 hx hby hml hown hnm hret hlk hZ e0
  refine w_iloadN X0 hx hby n1_0 rfl ?_
  refine f_if_ne X0 hx hby n1_1 (fun q1 => ?_) (fun q1 => ?_)
  · refine w_iloadN X0 hx hby n1_8 rfl ?_
    refine w_iconst X0 hx hby (1 : Int32) n1_9 rfl ?_
    refine f_icmp_ne X0 hx hby n1_10 (fun q10 => ?_) (fun q10 => ?_)
    · refine w_iloadN X0 hx hby n1_17 rfl ?_
      refine w_iconst X0 hx hby (2 : Int32) n1_18 rfl ?_
      refine f_icmp_ne X0 hx hby n1_19 (fun q19 => ?_) (fun q19 => ?_)
      · refine w_iloadN X0 hx hby n1_26 rfl ?_
        refine w_iconst X0 hx hby (3 : Int32) n1_27 rfl ?_
        refine f_icmp_ne X0 hx hby n1_28 (fun q28 => ?_) (fun q28 => ?_)
        · refine w_getS X0 hx hby hZ hown (host := "") (Or.inl (hw _ t_30)) Via.refl e0 S_BOTTOM n1_35 fun T1 X1 e1 => ?_
          refine w_retA X1 hx hby e1 hlk hret rfl rfl rfl n1_38 (by decide) (by decide) ?_
          exact ⟨congrArg (fun q => some (Value.ref q)) (by first | (unfold own_pk; rw [if_neg q1, if_neg q10, if_neg q19, if_neg q28] <;> rfl) | simp [own_pk, own_nar1, own_nar0, q1, q10, q19, q28]), rfl, rfl⟩
        · refine w_getS X0 hx hby hZ hown (host := "") (Or.inl (hw _ t_8)) Via.refl e0 S_POSITIVE n1_31 fun T2 X2 e2 => ?_
          refine w_retA X2 hx hby e2 hlk hret rfl rfl rfl n1_34 (by decide) (by decide) ?_
          exact ⟨congrArg (fun q => some (Value.ref q)) (by first | (unfold own_pk; rw [if_neg q1, if_neg q10, if_neg q19, if_pos q28] <;> rfl) | simp [own_pk, own_nar1, own_nar0, q1, q10, q19, q28]), rfl, rfl⟩
      · refine w_getS X0 hx hby hZ hown (host := "") (Or.inl (hw _ t_31)) Via.refl e0 S_ZERO n1_22 fun T3 X3 e3 => ?_
        refine w_retA X3 hx hby e3 hlk hret rfl rfl rfl n1_25 (by decide) (by decide) ?_
        exact ⟨congrArg (fun q => some (Value.ref q)) (by first | (unfold own_pk; rw [if_neg q1, if_neg q10, if_pos q19] <;> rfl) | simp [own_pk, own_nar1, own_nar0, q1, q10, q19]), rfl, rfl⟩
    · refine w_getS X0 hx hby hZ hown (host := "") (Or.inl (hw _ t_19)) Via.refl e0 S_NEGATIVE n1_13 fun T4 X4 e4 => ?_
      refine w_retA X4 hx hby e4 hlk hret rfl rfl rfl n1_16 (by decide) (by decide) ?_
      exact ⟨congrArg (fun q => some (Value.ref q)) (by first | (unfold own_pk; rw [if_neg q1, if_pos q10] <;> rfl) | simp [own_pk, own_nar1, own_nar0, q1, q10]), rfl, rfl⟩
  · refine w_getS X0 hx hby hZ hown (host := "") (Or.inl (hw _ t_5)) Via.refl e0 S_TOP n1_4 fun T5 X5 e5 => ?_
    refine w_retA X5 hx hby e5 hlk hret rfl rfl rfl n1_7 (by decide) (by decide) ?_
    exact ⟨congrArg (fun q => some (Value.ref q)) (by first | (unfold own_pk; rw [if_pos q1] <;> rfl) | simp [own_pk, own_nar1, own_nar0, q1]), rfl, rfl⟩
set_option maxRecDepth 65536 in
set_option maxHeartbeats 4000000 in
theorem ef_rm2 (m : MethodId) (x0 : Addr) (x1 : Addr) : entryFrame m #[(.ref x0), (.ref x1)] 3 = mkF m 0 #[.val (.ref x0), .val (.ref x1), .unset] [] := by first | (simp [entryFrame, mkF, argsToLocals, Value.category]; done) | rfl
set_option maxRecDepth 65536 in
set_option maxHeartbeats 40000000 in
theorem rm2 (l : Launch) (Z : State) (a0 : Array Value) (hw : ∀ d ∈ tables_1, d.before a0 Z = true) (tp ng ze po bo : Addr) (y1 y2 : Addr) (h0 : Heap) (S_TOP : Sta Z h0 "com/example/valtab/valtab/sign/Sign" "TOP" "Lcom/example/valtab/valtab/sign/Sign;" (.ref tp)) (S_NEGATIVE : Sta Z h0 "com/example/valtab/valtab/sign/Sign" "NEGATIVE" "Lcom/example/valtab/valtab/sign/Sign;" (.ref ng)) (S_ZERO : Sta Z h0 "com/example/valtab/valtab/sign/Sign" "ZERO" "Lcom/example/valtab/valtab/sign/Sign;" (.ref ze)) (S_POSITIVE : Sta Z h0 "com/example/valtab/valtab/sign/Sign" "POSITIVE" "Lcom/example/valtab/valtab/sign/Sign;" (.ref po)) (S_BOTTOM : Sta Z h0 "com/example/valtab/valtab/sign/Sign" "BOTTOM" "Lcom/example/valtab/valtab/sign/Sign;" (.ref bo)) : Con l Z (⟨"com/example/valtab/valtab/sign/Sign", "multiply", "(Lcom/example/valtab/valtab/sign/Sign;)Lcom/example/valtab/valtab/sign/Sign;"⟩ : MethodName) prog_37_method_10_code 3 (some (.object "com/example/valtab/valtab/sign/Sign")) ({ frames := 0, cells := 0, slots := 0, locals := 0 } : Room) #[(.ref y1), (.ref y2)] h0 (fun v h L => v = some (.ref (own_mul tp ng ze po bo y1 y2)) ∧ h = h0 ∧ L = []) := by
  refine w_body (Ls := #[.val (.ref y1), .val (.ref y2), .unset]) pn_2 (fun m => ef_rm2 m y1 y2) ?_
  intro p e s m below meth c T0 X0 hx hby hml hown hnm hret hlk hZ e0
  refine w_aloadN X0 hx hby n2_0 rfl rfl ?_
  refine w_getS X0 hx hby hZ hown (host := "") (Or.inl (hw _ t_15)) Via.refl e0 S_TOP n2_1 fun T1 X1 e1 => ?_
  refine f_acmp_eq X1 hx hby n2_4 (fun q4 => ?_) (fun q4 => ?_)
  · refine w_getS X1 hx hby hZ hown (host := "") (Or.inl (hw _ t_15)) Via.refl e1 S_TOP n2_14 fun T2 X2 e2 => ?_
    refine w_astoreN X2 hx hby #[.val (.ref y1), .val (.ref y2), .val (.ref tp)] n2_17 rfl rfl ?_
    refine w_goto X2 hx hby n2_18 ?_
    refine w_aloadN X2 hx hby n2_79 rfl rfl ?_
    refine w_retA X2 hx hby e2 hlk hret rfl rfl rfl n2_80 (by decide) (by decide) ?_
    exact ⟨congrArg (fun q => some (Value.ref q)) (by first | (unfold own_mul; rw [if_pos q4] <;> rfl) | simp [own_mul, own_nar1, own_nar0, q4]), rfl, rfl⟩
  · refine w_aloadN X1 hx hby n2_7 rfl rfl ?_
    refine w_getS X1 hx hby hZ hown (host := "") (Or.inl (hw _ t_15)) Via.refl e1 S_TOP n2_8 fun T3 X3 e3 => ?_
    refine f_acmp_ne X3 hx hby n2_11 (fun q11 => ?_) (fun q11 => ?_)
    · refine w_aloadN X3 hx hby n2_21 rfl rfl ?_
      refine w_getS X3 hx hby hZ hown (host := "") (Or.inl (hw _ t_26)) Via.refl e3 S_ZERO n2_22 fun T4 X4 e4 => ?_
      refine f_acmp_eq X4 hx hby n2_25 (fun q25 => ?_) (fun q25 => ?_)
      · refine w_getS X4 hx hby hZ hown (host := "") (Or.inl (hw _ t_26)) Via.refl e4 S_ZERO n2_35 fun T5 X5 e5 => ?_
        refine w_astoreN X5 hx hby #[.val (.ref y1), .val (.ref y2), .val (.ref ze)] n2_38 rfl rfl ?_
        refine w_goto X5 hx hby n2_39 ?_
        refine w_aloadN X5 hx hby n2_79 rfl rfl ?_
        refine w_retA X5 hx hby e5 hlk hret rfl rfl rfl n2_80 (by decide) (by decide) ?_
        exact ⟨congrArg (fun q => some (Value.ref q)) (by first | (unfold own_mul; rw [if_neg q4, if_neg q11, if_pos q25] <;> rfl) | simp [own_mul, own_nar1, own_nar0, q4, q11, q25]), rfl, rfl⟩
      · refine w_aloadN X4 hx hby n2_28 rfl rfl ?_
        refine w_getS X4 hx hby hZ hown (host := "") (Or.inl (hw _ t_26)) Via.refl e4 S_ZERO n2_29 fun T6 X6 e6 => ?_
        refine f_acmp_ne X6 hx hby n2_32 (fun q32 => ?_) (fun q32 => ?_)
        · refine w_aloadN X6 hx hby n2_42 rfl rfl ?_
          refine w_getS X6 hx hby hZ hown (host := "") (Or.inl (hw _ t_28)) Via.refl e6 S_BOTTOM n2_43 fun T7 X7 e7 => ?_
          refine f_acmp_eq X7 hx hby n2_46 (fun q46 => ?_) (fun q46 => ?_)
          · refine w_getS X7 hx hby hZ hown (host := "") (Or.inl (hw _ t_28)) Via.refl e7 S_BOTTOM n2_56 fun T8 X8 e8 => ?_
            refine w_astoreN X8 hx hby #[.val (.ref y1), .val (.ref y2), .val (.ref bo)] n2_59 rfl rfl ?_
            refine w_goto X8 hx hby n2_60 ?_
            refine w_aloadN X8 hx hby n2_79 rfl rfl ?_
            refine w_retA X8 hx hby e8 hlk hret rfl rfl rfl n2_80 (by decide) (by decide) ?_
            exact ⟨congrArg (fun q => some (Value.ref q)) (by first | (unfold own_mul; rw [if_neg q4, if_neg q11, if_neg q25, if_neg q32, if_pos q46] <;> rfl) | simp [own_mul, own_nar1, own_nar0, q4, q11, q25, q32, q46]), rfl, rfl⟩
          · refine w_aloadN X7 hx hby n2_49 rfl rfl ?_
            refine w_getS X7 hx hby hZ hown (host := "") (Or.inl (hw _ t_28)) Via.refl e7 S_BOTTOM n2_50 fun T9 X9 e9 => ?_
            refine f_acmp_ne X9 hx hby n2_53 (fun q53 => ?_) (fun q53 => ?_)
            · refine w_aloadN X9 hx hby n2_63 rfl rfl ?_
              refine w_aloadN X9 hx hby n2_64 rfl rfl ?_
              refine f_acmp_ne X9 hx hby n2_65 (fun q65 => ?_) (fun q65 => ?_)
              · refine w_getS X9 hx hby hZ hown (host := "") (Or.inl (hw _ t_25)) Via.refl e9 S_NEGATIVE n2_75 fun T10 X10 e10 => ?_
                refine w_astoreN X10 hx hby #[.val (.ref y1), .val (.ref y2), .val (.ref ng)] n2_78 rfl rfl ?_
                refine w_aloadN X10 hx hby n2_79 rfl rfl ?_
                refine w_retA X10 hx hby e10 hlk hret rfl rfl rfl n2_80 (by decide) (by decide) ?_
                exact ⟨congrArg (fun q => some (Value.ref q)) (by first | (unfold own_mul; rw [if_neg q4, if_neg q11, if_neg q25, if_neg q32, if_neg q46, if_neg q53, if_neg q65] <;> rfl) | simp [own_mul, own_nar1, own_nar0, q4, q11, q25, q32, q46, q53, q65]), rfl, rfl⟩
              · refine w_getS X9 hx hby hZ hown (host := "") (Or.inl (hw _ t_24)) Via.refl e9 S_POSITIVE n2_68 fun T11 X11 e11 => ?_
                refine w_astoreN X11 hx hby #[.val (.ref y1), .val (.ref y2), .val (.ref po)] n2_71 rfl rfl ?_
                refine w_goto X11 hx hby n2_72 ?_
                refine w_aloadN X11 hx hby n2_79 rfl rfl ?_
                refine w_retA X11 hx hby e11 hlk hret rfl rfl rfl n2_80 (by decide) (by decide) ?_
                exact ⟨congrArg (fun q => some (Value.ref q)) (by first | (unfold own_mul; rw [if_neg q4, if_neg q11, if_neg q25, if_neg q32, if_neg q46, if_neg q53, if_pos q65] <;> rfl) | simp [own_mul, own_nar1, own_nar0, q4, q11, q25, q32, q46, q53, q65]), rfl, rfl⟩
            · refine w_getS X9 hx hby hZ hown (host := "") (Or.inl (hw _ t_28)) Via.refl e9 S_BOTTOM n2_56 fun T12 X12 e12 => ?_
              refine w_astoreN X12 hx hby #[.val (.ref y1), .val (.ref y2), .val (.ref bo)] n2_59 rfl rfl ?_
              refine w_goto X12 hx hby n2_60 ?_
              refine w_aloadN X12 hx hby n2_79 rfl rfl ?_
              refine w_retA X12 hx hby e12 hlk hret rfl rfl rfl n2_80 (by decide) (by decide) ?_
              exact ⟨congrArg (fun q => some (Value.ref q)) (by first | (unfold own_mul; rw [if_neg q4, if_neg q11, if_neg q25, if_neg q32, if_neg q46, if_pos q53] <;> rfl) | simp [own_mul, own_nar1, own_nar0, q4, q11, q25, q32, q46, q53]), rfl, rfl⟩
        · refine w_getS X6 hx hby hZ hown (host := "") (Or.inl (hw _ t_26)) Via.refl e6 S_ZERO n2_35 fun T13 X13 e13 => ?_
          refine w_astoreN X13 hx hby #[.val (.ref y1), .val (.ref y2), .val (.ref ze)] n2_38 rfl rfl ?_
          refine w_goto X13 hx hby n2_39 ?_
          refine w_aloadN X13 hx hby n2_79 rfl rfl ?_
          refine w_retA X13 hx hby e13 hlk hret rfl rfl rfl n2_80 (by decide) (by decide) ?_
          exact ⟨congrArg (fun q => some (Value.ref q)) (by first | (unfold own_mul; rw [if_neg q4, if_neg q11, if_neg q25, if_pos q32] <;> rfl) | simp [own_mul, own_nar1, own_nar0, q4, q11, q25, q32]), rfl, rfl⟩
    · refine w_getS X3 hx hby hZ hown (host := "") (Or.inl (hw _ t_15)) Via.refl e3 S_TOP n2_14 fun T14 X14 e14 => ?_
      refine w_astoreN X14 hx hby #[.val (.ref y1), .val (.ref y2), .val (.ref tp)] n2_17 rfl rfl ?_
      refine w_goto X14 hx hby n2_18 ?_
      refine w_aloadN X14 hx hby n2_79 rfl rfl ?_
      refine w_retA X14 hx hby e14 hlk hret rfl rfl rfl n2_80 (by decide) (by decide) ?_
      exact ⟨congrArg (fun q => some (Value.ref q)) (by first | (unfold own_mul; rw [if_neg q4, if_pos q11] <;> rfl) | simp [own_mul, own_nar1, own_nar0, q4, q11]), rfl, rfl⟩
set_option maxRecDepth 65536 in
set_option maxHeartbeats 4000000 in
theorem ef_rm3 (m : MethodId) (x0 : Int32) (x1 : Int32) : entryFrame m #[(.int x0), (.int x1)] 3 = mkF m 0 #[.val (.int x0), .val (.int x1), .unset] [] := by first | (simp [entryFrame, mkF, argsToLocals, Value.category]; done) | rfl
set_option maxRecDepth 65536 in
set_option maxHeartbeats 40000000 in
theorem rm3 (l : Launch) (Z : State) (a0 : Array Value) (hw : ∀ d ∈ tables_1, d.before a0 Z = true) (tp ng ze po bo : Addr) (k1 k2 : Int32) (h0 : Heap) (S_TOP : Sta Z h0 "com/example/valtab/valtab/sign/Sign" "TOP" "Lcom/example/valtab/valtab/sign/Sign;" (.ref tp)) (S_NEGATIVE : Sta Z h0 "com/example/valtab/valtab/sign/Sign" "NEGATIVE" "Lcom/example/valtab/valtab/sign/Sign;" (.ref ng)) (S_ZERO : Sta Z h0 "com/example/valtab/valtab/sign/Sign" "ZERO" "Lcom/example/valtab/valtab/sign/Sign;" (.ref ze)) (S_POSITIVE : Sta Z h0 "com/example/valtab/valtab/sign/Sign" "POSITIVE" "Lcom/example/valtab/valtab/sign/Sign;" (.ref po)) (S_BOTTOM : Sta Z h0 "com/example/valtab/valtab/sign/Sign" "BOTTOM" "Lcom/example/valtab/valtab/sign/Sign;" (.ref bo)) : Con l Z (⟨"com/example/valtab/valtab/sign/SignMultiplyPinLaw", "expected", "(II)Lcom/example/valtab/valtab/sign/Sign;"⟩ : MethodName) method_3_code 3 (some (.object "com/example/valtab/valtab/sign/Sign")) ({ frames := 0, cells := 0, slots := 0, locals := 0 } : Room) #[(.int k1), (.int k2)] h0 (fun v h L => v = some (.ref (own_ex tp ng ze po bo k1 k2)) ∧ h = h0 ∧ L = []) := by
  refine w_body (Ls := #[.val (.int k1), .val (.int k2), .unset]) pn_3 (fun m => ef_rm3 m k1 k2) ?_
  intro p e s m below meth c T0 X0 hx hby hml hown hnm hret hlk hZ e0
  refine w_iloadN X0 hx hby n3_0 rfl ?_
  refine f_if_eq X0 hx hby n3_1 (fun q1 => ?_) (fun q1 => ?_)
  · refine w_getS X0 hx hby hZ hown (host := "") (Or.inl (hw _ t_5)) Via.refl e0 S_TOP n3_8 fun T1 X1 e1 => ?_
    refine w_retA X1 hx hby e1 hlk hret rfl rfl rfl n3_11 (by decide) (by decide) ?_
    exact ⟨congrArg (fun q => some (Value.ref q)) (by first | (unfold own_ex; rw [if_pos q1] <;> rfl) | simp [own_ex, own_nar1, own_nar0, q1]), rfl, rfl⟩
  · refine w_iloadN X0 hx hby n3_4 rfl ?_
    refine f_if_ne X0 hx hby n3_5 (fun q5 => ?_) (fun q5 => ?_)
    · refine w_iloadN X0 hx hby n3_12 rfl ?_
      refine w_iconst X0 hx hby (2 : Int32) n3_13 rfl ?_
      refine f_icmp_eq X0 hx hby n3_14 (fun q14 => ?_) (fun q14 => ?_)
      · refine w_getS X0 hx hby hZ hown (host := "") (Or.inl (hw _ t_31)) Via.refl e0 S_ZERO n3_22 fun T2 X2 e2 => ?_
        refine w_retA X2 hx hby e2 hlk hret rfl rfl rfl n3_25 (by decide) (by decide) ?_
        exact ⟨congrArg (fun q => some (Value.ref q)) (by first | (unfold own_ex; rw [if_neg q1, if_neg q5, if_pos q14] <;> rfl) | simp [own_ex, own_nar1, own_nar0, q1, q5, q14]), rfl, rfl⟩
      · refine w_iloadN X0 hx hby n3_17 rfl ?_
        refine w_iconst X0 hx hby (2 : Int32) n3_18 rfl ?_
        refine f_icmp_ne X0 hx hby n3_19 (fun q19 => ?_) (fun q19 => ?_)
        · refine w_iloadN X0 hx hby n3_26 rfl ?_
          refine w_iconst X0 hx hby (4 : Int32) n3_27 rfl ?_
          refine f_icmp_eq X0 hx hby n3_28 (fun q28 => ?_) (fun q28 => ?_)
          · refine w_getS X0 hx hby hZ hown (host := "") (Or.inl (hw _ t_30)) Via.refl e0 S_BOTTOM n3_36 fun T3 X3 e3 => ?_
            refine w_retA X3 hx hby e3 hlk hret rfl rfl rfl n3_39 (by decide) (by decide) ?_
            exact ⟨congrArg (fun q => some (Value.ref q)) (by first | (unfold own_ex; rw [if_neg q1, if_neg q5, if_neg q14, if_neg q19, if_pos q28] <;> rfl) | simp [own_ex, own_nar1, own_nar0, q1, q5, q14, q19, q28]), rfl, rfl⟩
          · refine w_iloadN X0 hx hby n3_31 rfl ?_
            refine w_iconst X0 hx hby (4 : Int32) n3_32 rfl ?_
            refine f_icmp_ne X0 hx hby n3_33 (fun q33 => ?_) (fun q33 => ?_)
            · refine w_iloadN X0 hx hby n3_40 rfl ?_
              refine w_iconst X0 hx hby (2 : Int32) n3_41 rfl ?_
              refine w_isub X0 hx hby n3_42 ?_
              refine w_iloadN X0 hx hby n3_43 rfl ?_
              refine w_iconst X0 hx hby (2 : Int32) n3_44 rfl ?_
              refine w_isub X0 hx hby n3_45 ?_
              refine w_imul X0 hx hby n3_46 ?_
              refine w_istoreN X0 hx hby #[.val (.int k1), .val (.int k2), .val (.int ((k1 - (2 : Int32)) * (k2 - (2 : Int32))))] n3_47 rfl ?_
              refine w_iloadN X0 hx hby n3_48 rfl ?_
              refine f_if_le X0 hx hby n3_49 (fun q49 => ?_) (fun q49 => ?_)
              · refine w_getS X0 hx hby hZ hown (host := "") (Or.inl (hw _ t_19)) Via.refl e0 S_NEGATIVE n3_56 fun T4 X4 e4 => ?_
                refine w_retA X4 hx hby e4 hlk hret rfl rfl rfl n3_59 (by decide) (by decide) ?_
                exact ⟨congrArg (fun q => some (Value.ref q)) (by first | (unfold own_ex; rw [if_neg q1, if_neg q5, if_neg q14, if_neg q19, if_neg q28, if_neg q33, if_neg q49] <;> rfl) | simp [own_ex, own_nar1, own_nar0, q1, q5, q14, q19, q28, q33, q49]), rfl, rfl⟩
              · refine w_getS X0 hx hby hZ hown (host := "") (Or.inl (hw _ t_8)) Via.refl e0 S_POSITIVE n3_52 fun T5 X5 e5 => ?_
                refine w_retA X5 hx hby e5 hlk hret rfl rfl rfl n3_55 (by decide) (by decide) ?_
                exact ⟨congrArg (fun q => some (Value.ref q)) (by first | (unfold own_ex; rw [if_neg q1, if_neg q5, if_neg q14, if_neg q19, if_neg q28, if_neg q33, if_pos q49] <;> rfl) | simp [own_ex, own_nar1, own_nar0, q1, q5, q14, q19, q28, q33, q49]), rfl, rfl⟩
            · refine w_getS X0 hx hby hZ hown (host := "") (Or.inl (hw _ t_30)) Via.refl e0 S_BOTTOM n3_36 fun T6 X6 e6 => ?_
              refine w_retA X6 hx hby e6 hlk hret rfl rfl rfl n3_39 (by decide) (by decide) ?_
              exact ⟨congrArg (fun q => some (Value.ref q)) (by first | (unfold own_ex; rw [if_neg q1, if_neg q5, if_neg q14, if_neg q19, if_neg q28, if_pos q33] <;> rfl) | simp [own_ex, own_nar1, own_nar0, q1, q5, q14, q19, q28, q33]), rfl, rfl⟩
        · refine w_getS X0 hx hby hZ hown (host := "") (Or.inl (hw _ t_31)) Via.refl e0 S_ZERO n3_22 fun T7 X7 e7 => ?_
          refine w_retA X7 hx hby e7 hlk hret rfl rfl rfl n3_25 (by decide) (by decide) ?_
          exact ⟨congrArg (fun q => some (Value.ref q)) (by first | (unfold own_ex; rw [if_neg q1, if_neg q5, if_neg q14, if_pos q19] <;> rfl) | simp [own_ex, own_nar1, own_nar0, q1, q5, q14, q19]), rfl, rfl⟩
    · refine w_getS X0 hx hby hZ hown (host := "") (Or.inl (hw _ t_5)) Via.refl e0 S_TOP n3_8 fun T8 X8 e8 => ?_
      refine w_retA X8 hx hby e8 hlk hret rfl rfl rfl n3_11 (by decide) (by decide) ?_
      exact ⟨congrArg (fun q => some (Value.ref q)) (by first | (unfold own_ex; rw [if_neg q1, if_pos q5] <;> rfl) | simp [own_ex, own_nar1, own_nar0, q1, q5]), rfl, rfl⟩
set_option maxRecDepth 65536 in
set_option maxHeartbeats 4000000 in
theorem ef_rm4 (m : MethodId) (x0 : Int64) : entryFrame m #[(.long x0)] 3 = mkF m 0 #[.val (.long x0), .second, .unset] [] := by first | (simp [entryFrame, mkF, argsToLocals, Value.category]; done) | rfl
set_option maxRecDepth 65536 in
set_option maxHeartbeats 40000000 in
theorem rm4 (l : Launch) (Z : State) (a0 : Array Value) (hw : ∀ d ∈ tables_1, d.before a0 Z = true) (tp ng ze po bo : Addr) (k1 : Int64) (h0 : Heap) (S_TOP : Sta Z h0 "com/example/valtab/valtab/sign/Sign" "TOP" "Lcom/example/valtab/valtab/sign/Sign;" (.ref tp)) (S_NEGATIVE : Sta Z h0 "com/example/valtab/valtab/sign/Sign" "NEGATIVE" "Lcom/example/valtab/valtab/sign/Sign;" (.ref ng)) (S_ZERO : Sta Z h0 "com/example/valtab/valtab/sign/Sign" "ZERO" "Lcom/example/valtab/valtab/sign/Sign;" (.ref ze)) (S_POSITIVE : Sta Z h0 "com/example/valtab/valtab/sign/Sign" "POSITIVE" "Lcom/example/valtab/valtab/sign/Sign;" (.ref po)) (S_BOTTOM : Sta Z h0 "com/example/valtab/valtab/sign/Sign" "BOTTOM" "Lcom/example/valtab/valtab/sign/Sign;" (.ref bo)) : Con l Z (⟨"com/example/valtab/valtab/sign/Sign", "of", "(J)Lcom/example/valtab/valtab/sign/Sign;"⟩ : MethodName) prog_37_method_4_code 3 (some (.object "com/example/valtab/valtab/sign/Sign")) ({ frames := 0, cells := 0, slots := 0, locals := 0 } : Room) #[(.long k1)] h0 (fun v h L => v = some (.ref (own_of ng ze po k1)) ∧ h = h0 ∧ L = []) := by
  refine w_body (Ls := #[.val (.long k1), .second, .unset]) pn_4 (fun m => ef_rm4 m k1) ?_
  intro p e s m below meth c T0 X0 hx hby hml hown hnm hret hlk hZ e0
  refine w_lloadN X0 hx hby n4_0 rfl ?_
  refine w_lconst X0 hx hby (0 : Int64) n4_1 rfl ?_
  refine f_lcmp_ge X0 hx hby n4_2 n4_3 (fun q2 => ?_) (fun q2 => ?_)
  · refine w_lloadN X0 hx hby n4_13 rfl ?_
    refine w_lconst X0 hx hby (0 : Int64) n4_14 rfl ?_
    refine f_lcmp_ne X0 hx hby n4_15 n4_16 (fun q15 => ?_) (fun q15 => ?_)
    · refine w_getS X0 hx hby hZ hown (host := "") (Or.inl (hw _ t_24)) Via.refl e0 S_POSITIVE n4_26 fun T1 X1 e1 => ?_
      refine w_astoreN X1 hx hby #[.val (.long k1), .second, .val (.ref po)] n4_29 rfl rfl ?_
      refine w_aloadN X1 hx hby n4_30 rfl rfl ?_
      refine w_retA X1 hx hby e1 hlk hret rfl rfl rfl n4_31 (by decide) (by decide) ?_
      exact ⟨congrArg (fun q => some (Value.ref q)) (by first | (unfold own_of; rw [if_neg q2, if_neg q15] <;> rfl) | simp [own_of, own_nar1, own_nar0, q2, q15]), rfl, rfl⟩
    · refine w_getS X0 hx hby hZ hown (host := "") (Or.inl (hw _ t_26)) Via.refl e0 S_ZERO n4_19 fun T2 X2 e2 => ?_
      refine w_astoreN X2 hx hby #[.val (.long k1), .second, .val (.ref ze)] n4_22 rfl rfl ?_
      refine w_goto X2 hx hby n4_23 ?_
      refine w_aloadN X2 hx hby n4_30 rfl rfl ?_
      refine w_retA X2 hx hby e2 hlk hret rfl rfl rfl n4_31 (by decide) (by decide) ?_
      exact ⟨congrArg (fun q => some (Value.ref q)) (by first | (unfold own_of; rw [if_neg q2, if_pos q15] <;> rfl) | simp [own_of, own_nar1, own_nar0, q2, q15]), rfl, rfl⟩
  · refine w_getS X0 hx hby hZ hown (host := "") (Or.inl (hw _ t_25)) Via.refl e0 S_NEGATIVE n4_6 fun T3 X3 e3 => ?_
    refine w_astoreN X3 hx hby #[.val (.long k1), .second, .val (.ref ng)] n4_9 rfl rfl ?_
    refine w_goto X3 hx hby n4_10 ?_
    refine w_aloadN X3 hx hby n4_30 rfl rfl ?_
    refine w_retA X3 hx hby e3 hlk hret rfl rfl rfl n4_31 (by decide) (by decide) ?_
    exact ⟨congrArg (fun q => some (Value.ref q)) (by first | (unfold own_of; rw [if_pos q2] <;> rfl) | simp [own_of, own_nar1, own_nar0, q2]), rfl, rfl⟩
set_option maxRecDepth 65536 in
set_option maxHeartbeats 4000000 in
theorem ef_law0 (m : MethodId) (x0 : Int32) (x1 : Int32) (x2 : Int64) (x3 : Int64) : entryFrame m #[(.int x0), (.int x1), (.long x2), (.long x3)] maxLocals = mkF m 0 #[.val (.int x0), .val (.int x1), .val (.long x2), .second, .val (.long x3), .second, .unset, .unset, .unset, .unset, .unset, .unset] [] := by first | (simp [entryFrame, mkF, argsToLocals, Value.category, maxLocals]; done) | rfl
set_option maxRecDepth 65536 in
set_option maxHeartbeats 40000000 in
theorem law0 (l : Launch) (Z : State) (a0 : Array Value) (hw : ∀ d ∈ tables_1, d.before a0 Z = true) (tp ng ze po bo : Addr) (x1 x2 : Int32) (y3 y4 : Int64) (h0 : Heap) (S_TOP : Sta Z h0 "com/example/valtab/valtab/sign/Sign" "TOP" "Lcom/example/valtab/valtab/sign/Sign;" (.ref tp)) (S_NEGATIVE : Sta Z h0 "com/example/valtab/valtab/sign/Sign" "NEGATIVE" "Lcom/example/valtab/valtab/sign/Sign;" (.ref ng)) (S_ZERO : Sta Z h0 "com/example/valtab/valtab/sign/Sign" "ZERO" "Lcom/example/valtab/valtab/sign/Sign;" (.ref ze)) (S_POSITIVE : Sta Z h0 "com/example/valtab/valtab/sign/Sign" "POSITIVE" "Lcom/example/valtab/valtab/sign/Sign;" (.ref po)) (S_BOTTOM : Sta Z h0 "com/example/valtab/valtab/sign/Sign" "BOTTOM" "Lcom/example/valtab/valtab/sign/Sign;" (.ref bo)) (E_TOP : Exa Z h0 tp "com/example/valtab/valtab/sign/Sign") (E_NEGATIVE : Exa Z h0 ng "com/example/valtab/valtab/sign/Sign") (E_ZERO : Exa Z h0 ze "com/example/valtab/valtab/sign/Sign") (E_POSITIVE : Exa Z h0 po "com/example/valtab/valtab/sign/Sign") (E_BOTTOM : Exa Z h0 bo "com/example/valtab/valtab/sign/Sign") (D : own_diff tp ng ze po bo) : Con l Z x code maxLocals ret room_1 #[(.int x1), (.int x2), (.long y3), (.long y4)] h0 (fun v h L => v = some (.int 1) ∧ Fr h0.size L) := by
  refine w_body (Ls := #[.val (.int x1), .val (.int x2), .val (.long y3), .second, .val (.long y4), .second, .unset, .unset, .unset, .unset, .unset, .unset]) pn_0 (fun m => ef_law0 m x1 x2 y3 y4) ?_
  intro p e s m below meth c T0 X0 hx hby hml hown hnm hret hlk hZ e0
  have hml : c.maxLocals = 12 := hml
  refine w_iloadN X0 hx hby n0_0 rfl ?_
  refine w_ldcI X0 hx hby hZ hown (hw _ t_0) n0_1 ?_
  refine w_iand X0 hx hby n0_3 ?_
  refine w_iconst X0 hx hby (5 : Int32) n0_4 rfl ?_
  refine w_irem X0 hx hby n0_5 (by decide) ?_
  refine w_istore X0 hx hby #[.val (.int x1), .val (.int x2), .val (.long y3), .second, .val (.long y4), .second, .val (.int ((x1 &&& (2147483647 : Int32)) % (5 : Int32))), .unset, .unset, .unset, .unset, .unset] n0_6 rfl ?_
  refine w_iloadN X0 hx hby n0_8 rfl ?_
  refine w_ldcI X0 hx hby hZ hown (hw _ t_0) n0_9 ?_
  refine w_iand X0 hx hby n0_11 ?_
  refine w_iconst X0 hx hby (5 : Int32) n0_12 rfl ?_
  refine w_irem X0 hx hby n0_13 (by decide) ?_
  refine w_istore X0 hx hby #[.val (.int x1), .val (.int x2), .val (.long y3), .second, .val (.long y4), .second, .val (.int ((x1 &&& (2147483647 : Int32)) % (5 : Int32))), .val (.int ((x2 &&& (2147483647 : Int32)) % (5 : Int32))), .unset, .unset, .unset, .unset] n0_14 rfl ?_
  refine w_iload X0 hx hby n0_16 rfl ?_
  refine w_calledp (call_S X0 hx hby hZ hown (argsL := [(.int ((x1 &&& (2147483647 : Int32)) % (5 : Int32)))]) (rest := []) (Wd := 0) (hw _ t_1) (hw _ t_2) (hw _ t_3) (hw _ t_4) (by decide) (rm1 l Z a0 hw tp ng ze po bo ((x1 &&& (2147483647 : Int32)) % (5 : Int32)) h0 S_TOP S_NEGATIVE S_ZERO S_POSITIVE S_BOTTOM) rfl n0_18 (by rw [hml]; rfl) (lenOf pd_99499 rfl) rfl (by decide) (by decide) (by decide) (by decide) e0) rfl rfl fun T1 X1 e1 => ?_
  refine w_iload X1 hx hby n0_21 rfl ?_
  refine w_calledp (call_S X1 hx hby hZ hown (argsL := [(.int ((x2 &&& (2147483647 : Int32)) % (5 : Int32)))]) (rest := [(.ref (own_pk tp ng ze po bo ((x1 &&& (2147483647 : Int32)) % (5 : Int32))))]) (Wd := 1) (hw _ t_1) (hw _ t_2) (hw _ t_3) (hw _ t_4) (by decide) (rm1 l Z a0 hw tp ng ze po bo ((x2 &&& (2147483647 : Int32)) % (5 : Int32)) h0 S_TOP S_NEGATIVE S_ZERO S_POSITIVE S_BOTTOM) rfl n0_23 (by rw [hml]; rfl) (lenOf pd_99499 rfl) rfl (by decide) (by decide) (by decide) (by decide) e1) rfl rfl fun T2 X2 e2 => ?_
  refine w_calledp (call_V X2 hx hby hZ hown (argsL := [(.ref (own_pk tp ng ze po bo ((x2 &&& (2147483647 : Int32)) % (5 : Int32))))]) (rest := []) (Wd := 0) (a := (own_pk tp ng ze po bo ((x1 &&& (2147483647 : Int32)) % (5 : Int32)))) (hw _ t_10) (hw _ t_11) (hw _ t_13) (hw _ t_12) (hw _ t_6) (hw _ t_14) (by decide) (own_pk_exa E_TOP E_NEGATIVE E_ZERO E_POSITIVE E_BOTTOM _) (rm2 l Z a0 hw tp ng ze po bo (own_pk tp ng ze po bo ((x1 &&& (2147483647 : Int32)) % (5 : Int32))) (own_pk tp ng ze po bo ((x2 &&& (2147483647 : Int32)) % (5 : Int32))) h0 S_TOP S_NEGATIVE S_ZERO S_POSITIVE S_BOTTOM) rfl n0_26 (by rw [hml]; rfl) (lenOf pd_318983 rfl) rfl (by decide) (by decide) (by decide) (by decide) e2) rfl rfl fun T3 X3 e3 => ?_
  refine w_astore X3 hx hby #[.val (.int x1), .val (.int x2), .val (.long y3), .second, .val (.long y4), .second, .val (.int ((x1 &&& (2147483647 : Int32)) % (5 : Int32))), .val (.int ((x2 &&& (2147483647 : Int32)) % (5 : Int32))), .val (.ref (own_mul tp ng ze po bo (own_pk tp ng ze po bo ((x1 &&& (2147483647 : Int32)) % (5 : Int32))) (own_pk tp ng ze po bo ((x2 &&& (2147483647 : Int32)) % (5 : Int32))))), .unset, .unset, .unset] n0_29 rfl rfl ?_
  refine w_aload X3 hx hby n0_31 rfl rfl ?_
  refine w_iload X3 hx hby n0_33 rfl ?_
  refine w_iload X3 hx hby n0_35 rfl ?_
  refine w_calledp (call_S X3 hx hby hZ hown (argsL := [(.int ((x1 &&& (2147483647 : Int32)) % (5 : Int32))), (.int ((x2 &&& (2147483647 : Int32)) % (5 : Int32)))]) (rest := [(.ref (own_mul tp ng ze po bo (own_pk tp ng ze po bo ((x1 &&& (2147483647 : Int32)) % (5 : Int32))) (own_pk tp ng ze po bo ((x2 &&& (2147483647 : Int32)) % (5 : Int32)))))]) (Wd := 1) (hw _ t_16) (hw _ t_17) (hw _ t_3) (hw _ t_18) (by decide) (rm3 l Z a0 hw tp ng ze po bo ((x1 &&& (2147483647 : Int32)) % (5 : Int32)) ((x2 &&& (2147483647 : Int32)) % (5 : Int32)) h0 S_TOP S_NEGATIVE S_ZERO S_POSITIVE S_BOTTOM) rfl n0_37 (by rw [hml]; rfl) (lenOf pd_103736 rfl) rfl (by decide) (by decide) (by decide) (by decide) e3) rfl rfl fun T4 X4 e4 => ?_
  refine f_acmp_ne X4 hx hby n0_40 (fun q40 => by exact absurd (own_table D x1 x2) q40) (fun q40 => ?_)
  refine w_iconst X4 hx hby (1 : Int32) n0_43 rfl ?_
  refine w_goto X4 hx hby n0_44 ?_
  refine w_istore X4 hx hby #[.val (.int x1), .val (.int x2), .val (.long y3), .second, .val (.long y4), .second, .val (.int ((x1 &&& (2147483647 : Int32)) % (5 : Int32))), .val (.int ((x2 &&& (2147483647 : Int32)) % (5 : Int32))), .val (.ref (own_mul tp ng ze po bo (own_pk tp ng ze po bo ((x1 &&& (2147483647 : Int32)) % (5 : Int32))) (own_pk tp ng ze po bo ((x2 &&& (2147483647 : Int32)) % (5 : Int32))))), .val (.int (1 : Int32)), .unset, .unset] n0_48 rfl ?_
  refine w_lloadN X4 hx hby n0_50 rfl ?_
  refine w_lconst X4 hx hby (0 : Int64) n0_51 rfl ?_
  refine f_lcmp_eq X4 hx hby n0_52 n0_53 (fun q52 => ?_) (fun q52 => ?_)
  · refine w_getS X4 hx hby hZ hown (host := "") (Or.inl (hw _ t_31)) Via.refl e4 S_ZERO n0_63 fun T5 X5 e5 => ?_
    refine w_astore X5 hx hby #[.val (.int x1), .val (.int x2), .val (.long y3), .second, .val (.long y4), .second, .val (.int ((x1 &&& (2147483647 : Int32)) % (5 : Int32))), .val (.int ((x2 &&& (2147483647 : Int32)) % (5 : Int32))), .val (.ref (own_mul tp ng ze po bo (own_pk tp ng ze po bo ((x1 &&& (2147483647 : Int32)) % (5 : Int32))) (own_pk tp ng ze po bo ((x2 &&& (2147483647 : Int32)) % (5 : Int32))))), .val (.int (1 : Int32)), .val (.ref ze), .unset] n0_66 rfl rfl ?_
    refine w_goto X5 hx hby n0_68 ?_
    refine w_lloadN X5 hx hby n0_110 rfl ?_
    refine w_calledp (call_S X5 hx hby hZ hown (argsL := [(.long y3)]) (rest := []) (Wd := 0) (hw _ t_21) (hw _ t_22) (hw _ t_6) (hw _ t_23) (by decide) (rm4 l Z a0 hw tp ng ze po bo y3 h0 S_TOP S_NEGATIVE S_ZERO S_POSITIVE S_BOTTOM) rfl n0_111 (by rw [hml]; rfl) (lenOf pd_99507 rfl) rfl (by decide) (by decide) (by decide) (by decide) e5) rfl rfl fun T6 X6 e6 => ?_
    refine w_lload X6 hx hby n0_114 rfl ?_
    refine w_calledp (call_S X6 hx hby hZ hown (argsL := [(.long y4)]) (rest := [(.ref (own_of ng ze po y3))]) (Wd := 1) (hw _ t_21) (hw _ t_22) (hw _ t_6) (hw _ t_23) (by decide) (rm4 l Z a0 hw tp ng ze po bo y4 h0 S_TOP S_NEGATIVE S_ZERO S_POSITIVE S_BOTTOM) rfl n0_116 (by rw [hml]; rfl) (lenOf pd_99507 rfl) rfl (by decide) (by decide) (by decide) (by decide) e6) rfl rfl fun T7 X7 e7 => ?_
    refine w_calledp (call_V X7 hx hby hZ hown (argsL := [(.ref (own_of ng ze po y4))]) (rest := []) (Wd := 0) (a := (own_of ng ze po y3)) (hw _ t_10) (hw _ t_11) (hw _ t_13) (hw _ t_12) (hw _ t_6) (hw _ t_14) (by decide) (own_of_exa E_NEGATIVE E_ZERO E_POSITIVE _) (rm2 l Z a0 hw tp ng ze po bo (own_of ng ze po y3) (own_of ng ze po y4) h0 S_TOP S_NEGATIVE S_ZERO S_POSITIVE S_BOTTOM) rfl n0_119 (by rw [hml]; rfl) (lenOf pd_318983 rfl) rfl (by decide) (by decide) (by decide) (by decide) e7) rfl rfl fun T8 X8 e8 => ?_
    refine w_aload X8 hx hby n0_122 rfl rfl ?_
    refine f_acmp_ne X8 hx hby n0_124 (fun q124 => by exact absurd ((own_sound D y3 y4).trans (by simp [own_exact, q52])) q124) (fun q124 => ?_)
    refine w_iconst X8 hx hby (1 : Int32) n0_127 rfl ?_
    refine w_goto X8 hx hby n0_128 ?_
    refine w_istore X8 hx hby #[.val (.int x1), .val (.int x2), .val (.long y3), .second, .val (.long y4), .second, .val (.int ((x1 &&& (2147483647 : Int32)) % (5 : Int32))), .val (.int ((x2 &&& (2147483647 : Int32)) % (5 : Int32))), .val (.ref (own_mul tp ng ze po bo (own_pk tp ng ze po bo ((x1 &&& (2147483647 : Int32)) % (5 : Int32))) (own_pk tp ng ze po bo ((x2 &&& (2147483647 : Int32)) % (5 : Int32))))), .val (.int (1 : Int32)), .val (.ref ze), .val (.int (1 : Int32))] n0_132 rfl ?_
    refine w_iload X8 hx hby n0_134 rfl ?_
    refine f_if_eq X8 hx hby n0_136 (fun q136 => by exact absurd q136 (by decide)) (fun q136 => ?_)
    refine w_iload X8 hx hby n0_139 rfl ?_
    refine f_if_eq X8 hx hby n0_141 (fun q141 => by exact absurd q141 (by decide)) (fun q141 => ?_)
    refine w_iconst X8 hx hby (1 : Int32) n0_144 rfl ?_
    refine w_goto X8 hx hby n0_145 ?_
    refine w_retN X8 hx hby e8 hlk hret (by simp) n0_149 (by decide) (by decide) ?_
    exact ⟨rfl, Fr.nil _⟩
  · refine w_lload X4 hx hby n0_56 rfl ?_
    refine w_lconst X4 hx hby (0 : Int64) n0_58 rfl ?_
    refine f_lcmp_ne X4 hx hby n0_59 n0_60 (fun q59 => ?_) (fun q59 => ?_)
    · refine w_lloadN X4 hx hby n0_71 rfl ?_
      refine w_lconst X4 hx hby (0 : Int64) n0_72 rfl ?_
      refine f_lcmp_ge X4 hx hby n0_73 n0_74 (fun q73 => ?_) (fun q73 => ?_)
      · refine w_iconst X4 hx hby (0 : Int32) n0_81 rfl ?_
        refine w_lload X4 hx hby n0_82 rfl ?_
        refine w_lconst X4 hx hby (0 : Int64) n0_84 rfl ?_
        refine f_lcmp_ge X4 hx hby n0_85 n0_86 (fun q85 => ?_) (fun q85 => ?_)
        · refine w_iconst X4 hx hby (0 : Int32) n0_93 rfl ?_
          refine f_icmp_ne X4 hx hby n0_94 (fun q94 => by exact absurd q94 (by decide)) (fun q94 => ?_)
          refine w_getS X4 hx hby hZ hown (host := "") (Or.inl (hw _ t_8)) Via.refl e4 S_POSITIVE n0_97 fun T9 X9 e9 => ?_
          refine w_astore X9 hx hby #[.val (.int x1), .val (.int x2), .val (.long y3), .second, .val (.long y4), .second, .val (.int ((x1 &&& (2147483647 : Int32)) % (5 : Int32))), .val (.int ((x2 &&& (2147483647 : Int32)) % (5 : Int32))), .val (.ref (own_mul tp ng ze po bo (own_pk tp ng ze po bo ((x1 &&& (2147483647 : Int32)) % (5 : Int32))) (own_pk tp ng ze po bo ((x2 &&& (2147483647 : Int32)) % (5 : Int32))))), .val (.int (1 : Int32)), .val (.ref po), .unset] n0_100 rfl rfl ?_
          refine w_goto X9 hx hby n0_102 ?_
          refine w_lloadN X9 hx hby n0_110 rfl ?_
          refine w_calledp (call_S X9 hx hby hZ hown (argsL := [(.long y3)]) (rest := []) (Wd := 0) (hw _ t_21) (hw _ t_22) (hw _ t_6) (hw _ t_23) (by decide) (rm4 l Z a0 hw tp ng ze po bo y3 h0 S_TOP S_NEGATIVE S_ZERO S_POSITIVE S_BOTTOM) rfl n0_111 (by rw [hml]; rfl) (lenOf pd_99507 rfl) rfl (by decide) (by decide) (by decide) (by decide) e9) rfl rfl fun T10 X10 e10 => ?_
          refine w_lload X10 hx hby n0_114 rfl ?_
          refine w_calledp (call_S X10 hx hby hZ hown (argsL := [(.long y4)]) (rest := [(.ref (own_of ng ze po y3))]) (Wd := 1) (hw _ t_21) (hw _ t_22) (hw _ t_6) (hw _ t_23) (by decide) (rm4 l Z a0 hw tp ng ze po bo y4 h0 S_TOP S_NEGATIVE S_ZERO S_POSITIVE S_BOTTOM) rfl n0_116 (by rw [hml]; rfl) (lenOf pd_99507 rfl) rfl (by decide) (by decide) (by decide) (by decide) e10) rfl rfl fun T11 X11 e11 => ?_
          refine w_calledp (call_V X11 hx hby hZ hown (argsL := [(.ref (own_of ng ze po y4))]) (rest := []) (Wd := 0) (a := (own_of ng ze po y3)) (hw _ t_10) (hw _ t_11) (hw _ t_13) (hw _ t_12) (hw _ t_6) (hw _ t_14) (by decide) (own_of_exa E_NEGATIVE E_ZERO E_POSITIVE _) (rm2 l Z a0 hw tp ng ze po bo (own_of ng ze po y3) (own_of ng ze po y4) h0 S_TOP S_NEGATIVE S_ZERO S_POSITIVE S_BOTTOM) rfl n0_119 (by rw [hml]; rfl) (lenOf pd_318983 rfl) rfl (by decide) (by decide) (by decide) (by decide) e11) rfl rfl fun T12 X12 e12 => ?_
          refine w_aload X12 hx hby n0_122 rfl rfl ?_
          refine f_acmp_ne X12 hx hby n0_124 (fun q124 => by exact absurd ((own_sound D y3 y4).trans (by simp [own_exact, q52, q59, q73, q85])) q124) (fun q124 => ?_)
          refine w_iconst X12 hx hby (1 : Int32) n0_127 rfl ?_
          refine w_goto X12 hx hby n0_128 ?_
          refine w_istore X12 hx hby #[.val (.int x1), .val (.int x2), .val (.long y3), .second, .val (.long y4), .second, .val (.int ((x1 &&& (2147483647 : Int32)) % (5 : Int32))), .val (.int ((x2 &&& (2147483647 : Int32)) % (5 : Int32))), .val (.ref (own_mul tp ng ze po bo (own_pk tp ng ze po bo ((x1 &&& (2147483647 : Int32)) % (5 : Int32))) (own_pk tp ng ze po bo ((x2 &&& (2147483647 : Int32)) % (5 : Int32))))), .val (.int (1 : Int32)), .val (.ref po), .val (.int (1 : Int32))] n0_132 rfl ?_
          refine w_iload X12 hx hby n0_134 rfl ?_
          refine f_if_eq X12 hx hby n0_136 (fun q136 => by exact absurd q136 (by decide)) (fun q136 => ?_)
          refine w_iload X12 hx hby n0_139 rfl ?_
          refine f_if_eq X12 hx hby n0_141 (fun q141 => by exact absurd q141 (by decide)) (fun q141 => ?_)
          refine w_iconst X12 hx hby (1 : Int32) n0_144 rfl ?_
          refine w_goto X12 hx hby n0_145 ?_
          refine w_retN X12 hx hby e12 hlk hret (by simp) n0_149 (by decide) (by decide) ?_
          exact ⟨rfl, Fr.nil _⟩
        · refine w_iconst X4 hx hby (1 : Int32) n0_89 rfl ?_
          refine w_goto X4 hx hby n0_90 ?_
          refine f_icmp_ne X4 hx hby n0_94 (fun q94 => ?_) (fun q94 => by exact absurd q94 (by decide))
          refine w_getS X4 hx hby hZ hown (host := "") (Or.inl (hw _ t_19)) Via.refl e4 S_NEGATIVE n0_105 fun T13 X13 e13 => ?_
          refine w_astore X13 hx hby #[.val (.int x1), .val (.int x2), .val (.long y3), .second, .val (.long y4), .second, .val (.int ((x1 &&& (2147483647 : Int32)) % (5 : Int32))), .val (.int ((x2 &&& (2147483647 : Int32)) % (5 : Int32))), .val (.ref (own_mul tp ng ze po bo (own_pk tp ng ze po bo ((x1 &&& (2147483647 : Int32)) % (5 : Int32))) (own_pk tp ng ze po bo ((x2 &&& (2147483647 : Int32)) % (5 : Int32))))), .val (.int (1 : Int32)), .val (.ref ng), .unset] n0_108 rfl rfl ?_
          refine w_lloadN X13 hx hby n0_110 rfl ?_
          refine w_calledp (call_S X13 hx hby hZ hown (argsL := [(.long y3)]) (rest := []) (Wd := 0) (hw _ t_21) (hw _ t_22) (hw _ t_6) (hw _ t_23) (by decide) (rm4 l Z a0 hw tp ng ze po bo y3 h0 S_TOP S_NEGATIVE S_ZERO S_POSITIVE S_BOTTOM) rfl n0_111 (by rw [hml]; rfl) (lenOf pd_99507 rfl) rfl (by decide) (by decide) (by decide) (by decide) e13) rfl rfl fun T14 X14 e14 => ?_
          refine w_lload X14 hx hby n0_114 rfl ?_
          refine w_calledp (call_S X14 hx hby hZ hown (argsL := [(.long y4)]) (rest := [(.ref (own_of ng ze po y3))]) (Wd := 1) (hw _ t_21) (hw _ t_22) (hw _ t_6) (hw _ t_23) (by decide) (rm4 l Z a0 hw tp ng ze po bo y4 h0 S_TOP S_NEGATIVE S_ZERO S_POSITIVE S_BOTTOM) rfl n0_116 (by rw [hml]; rfl) (lenOf pd_99507 rfl) rfl (by decide) (by decide) (by decide) (by decide) e14) rfl rfl fun T15 X15 e15 => ?_
          refine w_calledp (call_V X15 hx hby hZ hown (argsL := [(.ref (own_of ng ze po y4))]) (rest := []) (Wd := 0) (a := (own_of ng ze po y3)) (hw _ t_10) (hw _ t_11) (hw _ t_13) (hw _ t_12) (hw _ t_6) (hw _ t_14) (by decide) (own_of_exa E_NEGATIVE E_ZERO E_POSITIVE _) (rm2 l Z a0 hw tp ng ze po bo (own_of ng ze po y3) (own_of ng ze po y4) h0 S_TOP S_NEGATIVE S_ZERO S_POSITIVE S_BOTTOM) rfl n0_119 (by rw [hml]; rfl) (lenOf pd_318983 rfl) rfl (by decide) (by decide) (by decide) (by decide) e15) rfl rfl fun T16 X16 e16 => ?_
          refine w_aload X16 hx hby n0_122 rfl rfl ?_
          refine f_acmp_ne X16 hx hby n0_124 (fun q124 => by exact absurd ((own_sound D y3 y4).trans (by simp [own_exact, q52, q59, q73, q85])) q124) (fun q124 => ?_)
          refine w_iconst X16 hx hby (1 : Int32) n0_127 rfl ?_
          refine w_goto X16 hx hby n0_128 ?_
          refine w_istore X16 hx hby #[.val (.int x1), .val (.int x2), .val (.long y3), .second, .val (.long y4), .second, .val (.int ((x1 &&& (2147483647 : Int32)) % (5 : Int32))), .val (.int ((x2 &&& (2147483647 : Int32)) % (5 : Int32))), .val (.ref (own_mul tp ng ze po bo (own_pk tp ng ze po bo ((x1 &&& (2147483647 : Int32)) % (5 : Int32))) (own_pk tp ng ze po bo ((x2 &&& (2147483647 : Int32)) % (5 : Int32))))), .val (.int (1 : Int32)), .val (.ref ng), .val (.int (1 : Int32))] n0_132 rfl ?_
          refine w_iload X16 hx hby n0_134 rfl ?_
          refine f_if_eq X16 hx hby n0_136 (fun q136 => by exact absurd q136 (by decide)) (fun q136 => ?_)
          refine w_iload X16 hx hby n0_139 rfl ?_
          refine f_if_eq X16 hx hby n0_141 (fun q141 => by exact absurd q141 (by decide)) (fun q141 => ?_)
          refine w_iconst X16 hx hby (1 : Int32) n0_144 rfl ?_
          refine w_goto X16 hx hby n0_145 ?_
          refine w_retN X16 hx hby e16 hlk hret (by simp) n0_149 (by decide) (by decide) ?_
          exact ⟨rfl, Fr.nil _⟩
      · refine w_iconst X4 hx hby (1 : Int32) n0_77 rfl ?_
        refine w_goto X4 hx hby n0_78 ?_
        refine w_lload X4 hx hby n0_82 rfl ?_
        refine w_lconst X4 hx hby (0 : Int64) n0_84 rfl ?_
        refine f_lcmp_ge X4 hx hby n0_85 n0_86 (fun q85 => ?_) (fun q85 => ?_)
        · refine w_iconst X4 hx hby (0 : Int32) n0_93 rfl ?_
          refine f_icmp_ne X4 hx hby n0_94 (fun q94 => ?_) (fun q94 => by exact absurd q94 (by decide))
          refine w_getS X4 hx hby hZ hown (host := "") (Or.inl (hw _ t_19)) Via.refl e4 S_NEGATIVE n0_105 fun T17 X17 e17 => ?_
          refine w_astore X17 hx hby #[.val (.int x1), .val (.int x2), .val (.long y3), .second, .val (.long y4), .second, .val (.int ((x1 &&& (2147483647 : Int32)) % (5 : Int32))), .val (.int ((x2 &&& (2147483647 : Int32)) % (5 : Int32))), .val (.ref (own_mul tp ng ze po bo (own_pk tp ng ze po bo ((x1 &&& (2147483647 : Int32)) % (5 : Int32))) (own_pk tp ng ze po bo ((x2 &&& (2147483647 : Int32)) % (5 : Int32))))), .val (.int (1 : Int32)), .val (.ref ng), .unset] n0_108 rfl rfl ?_
          refine w_lloadN X17 hx hby n0_110 rfl ?_
          refine w_calledp (call_S X17 hx hby hZ hown (argsL := [(.long y3)]) (rest := []) (Wd := 0) (hw _ t_21) (hw _ t_22) (hw _ t_6) (hw _ t_23) (by decide) (rm4 l Z a0 hw tp ng ze po bo y3 h0 S_TOP S_NEGATIVE S_ZERO S_POSITIVE S_BOTTOM) rfl n0_111 (by rw [hml]; rfl) (lenOf pd_99507 rfl) rfl (by decide) (by decide) (by decide) (by decide) e17) rfl rfl fun T18 X18 e18 => ?_
          refine w_lload X18 hx hby n0_114 rfl ?_
          refine w_calledp (call_S X18 hx hby hZ hown (argsL := [(.long y4)]) (rest := [(.ref (own_of ng ze po y3))]) (Wd := 1) (hw _ t_21) (hw _ t_22) (hw _ t_6) (hw _ t_23) (by decide) (rm4 l Z a0 hw tp ng ze po bo y4 h0 S_TOP S_NEGATIVE S_ZERO S_POSITIVE S_BOTTOM) rfl n0_116 (by rw [hml]; rfl) (lenOf pd_99507 rfl) rfl (by decide) (by decide) (by decide) (by decide) e18) rfl rfl fun T19 X19 e19 => ?_
          refine w_calledp (call_V X19 hx hby hZ hown (argsL := [(.ref (own_of ng ze po y4))]) (rest := []) (Wd := 0) (a := (own_of ng ze po y3)) (hw _ t_10) (hw _ t_11) (hw _ t_13) (hw _ t_12) (hw _ t_6) (hw _ t_14) (by decide) (own_of_exa E_NEGATIVE E_ZERO E_POSITIVE _) (rm2 l Z a0 hw tp ng ze po bo (own_of ng ze po y3) (own_of ng ze po y4) h0 S_TOP S_NEGATIVE S_ZERO S_POSITIVE S_BOTTOM) rfl n0_119 (by rw [hml]; rfl) (lenOf pd_318983 rfl) rfl (by decide) (by decide) (by decide) (by decide) e19) rfl rfl fun T20 X20 e20 => ?_
          refine w_aload X20 hx hby n0_122 rfl rfl ?_
          refine f_acmp_ne X20 hx hby n0_124 (fun q124 => by exact absurd ((own_sound D y3 y4).trans (by simp [own_exact, q52, q59, q73, q85])) q124) (fun q124 => ?_)
          refine w_iconst X20 hx hby (1 : Int32) n0_127 rfl ?_
          refine w_goto X20 hx hby n0_128 ?_
          refine w_istore X20 hx hby #[.val (.int x1), .val (.int x2), .val (.long y3), .second, .val (.long y4), .second, .val (.int ((x1 &&& (2147483647 : Int32)) % (5 : Int32))), .val (.int ((x2 &&& (2147483647 : Int32)) % (5 : Int32))), .val (.ref (own_mul tp ng ze po bo (own_pk tp ng ze po bo ((x1 &&& (2147483647 : Int32)) % (5 : Int32))) (own_pk tp ng ze po bo ((x2 &&& (2147483647 : Int32)) % (5 : Int32))))), .val (.int (1 : Int32)), .val (.ref ng), .val (.int (1 : Int32))] n0_132 rfl ?_
          refine w_iload X20 hx hby n0_134 rfl ?_
          refine f_if_eq X20 hx hby n0_136 (fun q136 => by exact absurd q136 (by decide)) (fun q136 => ?_)
          refine w_iload X20 hx hby n0_139 rfl ?_
          refine f_if_eq X20 hx hby n0_141 (fun q141 => by exact absurd q141 (by decide)) (fun q141 => ?_)
          refine w_iconst X20 hx hby (1 : Int32) n0_144 rfl ?_
          refine w_goto X20 hx hby n0_145 ?_
          refine w_retN X20 hx hby e20 hlk hret (by simp) n0_149 (by decide) (by decide) ?_
          exact ⟨rfl, Fr.nil _⟩
        · refine w_iconst X4 hx hby (1 : Int32) n0_89 rfl ?_
          refine w_goto X4 hx hby n0_90 ?_
          refine f_icmp_ne X4 hx hby n0_94 (fun q94 => by exact absurd q94 (by decide)) (fun q94 => ?_)
          refine w_getS X4 hx hby hZ hown (host := "") (Or.inl (hw _ t_8)) Via.refl e4 S_POSITIVE n0_97 fun T21 X21 e21 => ?_
          refine w_astore X21 hx hby #[.val (.int x1), .val (.int x2), .val (.long y3), .second, .val (.long y4), .second, .val (.int ((x1 &&& (2147483647 : Int32)) % (5 : Int32))), .val (.int ((x2 &&& (2147483647 : Int32)) % (5 : Int32))), .val (.ref (own_mul tp ng ze po bo (own_pk tp ng ze po bo ((x1 &&& (2147483647 : Int32)) % (5 : Int32))) (own_pk tp ng ze po bo ((x2 &&& (2147483647 : Int32)) % (5 : Int32))))), .val (.int (1 : Int32)), .val (.ref po), .unset] n0_100 rfl rfl ?_
          refine w_goto X21 hx hby n0_102 ?_
          refine w_lloadN X21 hx hby n0_110 rfl ?_
          refine w_calledp (call_S X21 hx hby hZ hown (argsL := [(.long y3)]) (rest := []) (Wd := 0) (hw _ t_21) (hw _ t_22) (hw _ t_6) (hw _ t_23) (by decide) (rm4 l Z a0 hw tp ng ze po bo y3 h0 S_TOP S_NEGATIVE S_ZERO S_POSITIVE S_BOTTOM) rfl n0_111 (by rw [hml]; rfl) (lenOf pd_99507 rfl) rfl (by decide) (by decide) (by decide) (by decide) e21) rfl rfl fun T22 X22 e22 => ?_
          refine w_lload X22 hx hby n0_114 rfl ?_
          refine w_calledp (call_S X22 hx hby hZ hown (argsL := [(.long y4)]) (rest := [(.ref (own_of ng ze po y3))]) (Wd := 1) (hw _ t_21) (hw _ t_22) (hw _ t_6) (hw _ t_23) (by decide) (rm4 l Z a0 hw tp ng ze po bo y4 h0 S_TOP S_NEGATIVE S_ZERO S_POSITIVE S_BOTTOM) rfl n0_116 (by rw [hml]; rfl) (lenOf pd_99507 rfl) rfl (by decide) (by decide) (by decide) (by decide) e22) rfl rfl fun T23 X23 e23 => ?_
          refine w_calledp (call_V X23 hx hby hZ hown (argsL := [(.ref (own_of ng ze po y4))]) (rest := []) (Wd := 0) (a := (own_of ng ze po y3)) (hw _ t_10) (hw _ t_11) (hw _ t_13) (hw _ t_12) (hw _ t_6) (hw _ t_14) (by decide) (own_of_exa E_NEGATIVE E_ZERO E_POSITIVE _) (rm2 l Z a0 hw tp ng ze po bo (own_of ng ze po y3) (own_of ng ze po y4) h0 S_TOP S_NEGATIVE S_ZERO S_POSITIVE S_BOTTOM) rfl n0_119 (by rw [hml]; rfl) (lenOf pd_318983 rfl) rfl (by decide) (by decide) (by decide) (by decide) e23) rfl rfl fun T24 X24 e24 => ?_
          refine w_aload X24 hx hby n0_122 rfl rfl ?_
          refine f_acmp_ne X24 hx hby n0_124 (fun q124 => by exact absurd ((own_sound D y3 y4).trans (by simp [own_exact, q52, q59, q73, q85])) q124) (fun q124 => ?_)
          refine w_iconst X24 hx hby (1 : Int32) n0_127 rfl ?_
          refine w_goto X24 hx hby n0_128 ?_
          refine w_istore X24 hx hby #[.val (.int x1), .val (.int x2), .val (.long y3), .second, .val (.long y4), .second, .val (.int ((x1 &&& (2147483647 : Int32)) % (5 : Int32))), .val (.int ((x2 &&& (2147483647 : Int32)) % (5 : Int32))), .val (.ref (own_mul tp ng ze po bo (own_pk tp ng ze po bo ((x1 &&& (2147483647 : Int32)) % (5 : Int32))) (own_pk tp ng ze po bo ((x2 &&& (2147483647 : Int32)) % (5 : Int32))))), .val (.int (1 : Int32)), .val (.ref po), .val (.int (1 : Int32))] n0_132 rfl ?_
          refine w_iload X24 hx hby n0_134 rfl ?_
          refine f_if_eq X24 hx hby n0_136 (fun q136 => by exact absurd q136 (by decide)) (fun q136 => ?_)
          refine w_iload X24 hx hby n0_139 rfl ?_
          refine f_if_eq X24 hx hby n0_141 (fun q141 => by exact absurd q141 (by decide)) (fun q141 => ?_)
          refine w_iconst X24 hx hby (1 : Int32) n0_144 rfl ?_
          refine w_goto X24 hx hby n0_145 ?_
          refine w_retN X24 hx hby e24 hlk hret (by simp) n0_149 (by decide) (by decide) ?_
          exact ⟨rfl, Fr.nil _⟩
    · refine w_getS X4 hx hby hZ hown (host := "") (Or.inl (hw _ t_31)) Via.refl e4 S_ZERO n0_63 fun T25 X25 e25 => ?_
      refine w_astore X25 hx hby #[.val (.int x1), .val (.int x2), .val (.long y3), .second, .val (.long y4), .second, .val (.int ((x1 &&& (2147483647 : Int32)) % (5 : Int32))), .val (.int ((x2 &&& (2147483647 : Int32)) % (5 : Int32))), .val (.ref (own_mul tp ng ze po bo (own_pk tp ng ze po bo ((x1 &&& (2147483647 : Int32)) % (5 : Int32))) (own_pk tp ng ze po bo ((x2 &&& (2147483647 : Int32)) % (5 : Int32))))), .val (.int (1 : Int32)), .val (.ref ze), .unset] n0_66 rfl rfl ?_
      refine w_goto X25 hx hby n0_68 ?_
      refine w_lloadN X25 hx hby n0_110 rfl ?_
      refine w_calledp (call_S X25 hx hby hZ hown (argsL := [(.long y3)]) (rest := []) (Wd := 0) (hw _ t_21) (hw _ t_22) (hw _ t_6) (hw _ t_23) (by decide) (rm4 l Z a0 hw tp ng ze po bo y3 h0 S_TOP S_NEGATIVE S_ZERO S_POSITIVE S_BOTTOM) rfl n0_111 (by rw [hml]; rfl) (lenOf pd_99507 rfl) rfl (by decide) (by decide) (by decide) (by decide) e25) rfl rfl fun T26 X26 e26 => ?_
      refine w_lload X26 hx hby n0_114 rfl ?_
      refine w_calledp (call_S X26 hx hby hZ hown (argsL := [(.long y4)]) (rest := [(.ref (own_of ng ze po y3))]) (Wd := 1) (hw _ t_21) (hw _ t_22) (hw _ t_6) (hw _ t_23) (by decide) (rm4 l Z a0 hw tp ng ze po bo y4 h0 S_TOP S_NEGATIVE S_ZERO S_POSITIVE S_BOTTOM) rfl n0_116 (by rw [hml]; rfl) (lenOf pd_99507 rfl) rfl (by decide) (by decide) (by decide) (by decide) e26) rfl rfl fun T27 X27 e27 => ?_
      refine w_calledp (call_V X27 hx hby hZ hown (argsL := [(.ref (own_of ng ze po y4))]) (rest := []) (Wd := 0) (a := (own_of ng ze po y3)) (hw _ t_10) (hw _ t_11) (hw _ t_13) (hw _ t_12) (hw _ t_6) (hw _ t_14) (by decide) (own_of_exa E_NEGATIVE E_ZERO E_POSITIVE _) (rm2 l Z a0 hw tp ng ze po bo (own_of ng ze po y3) (own_of ng ze po y4) h0 S_TOP S_NEGATIVE S_ZERO S_POSITIVE S_BOTTOM) rfl n0_119 (by rw [hml]; rfl) (lenOf pd_318983 rfl) rfl (by decide) (by decide) (by decide) (by decide) e27) rfl rfl fun T28 X28 e28 => ?_
      refine w_aload X28 hx hby n0_122 rfl rfl ?_
      refine f_acmp_ne X28 hx hby n0_124 (fun q124 => by exact absurd ((own_sound D y3 y4).trans (by simp [own_exact, q52, q59])) q124) (fun q124 => ?_)
      refine w_iconst X28 hx hby (1 : Int32) n0_127 rfl ?_
      refine w_goto X28 hx hby n0_128 ?_
      refine w_istore X28 hx hby #[.val (.int x1), .val (.int x2), .val (.long y3), .second, .val (.long y4), .second, .val (.int ((x1 &&& (2147483647 : Int32)) % (5 : Int32))), .val (.int ((x2 &&& (2147483647 : Int32)) % (5 : Int32))), .val (.ref (own_mul tp ng ze po bo (own_pk tp ng ze po bo ((x1 &&& (2147483647 : Int32)) % (5 : Int32))) (own_pk tp ng ze po bo ((x2 &&& (2147483647 : Int32)) % (5 : Int32))))), .val (.int (1 : Int32)), .val (.ref ze), .val (.int (1 : Int32))] n0_132 rfl ?_
      refine w_iload X28 hx hby n0_134 rfl ?_
      refine f_if_eq X28 hx hby n0_136 (fun q136 => by exact absurd q136 (by decide)) (fun q136 => ?_)
      refine w_iload X28 hx hby n0_139 rfl ?_
      refine f_if_eq X28 hx hby n0_141 (fun q141 => by exact absurd q141 (by decide)) (fun q141 => ?_)
      refine w_iconst X28 hx hby (1 : Int32) n0_144 rfl ?_
      refine w_goto X28 hx hby n0_145 ?_
      refine w_retN X28 hx hby e28 hlk hret (by simp) n0_149 (by decide) (by decide) ?_
      exact ⟨rfl, Fr.nil _⟩
set_option maxRecDepth 65536 in
set_option maxHeartbeats 40000000 in
theorem comes_1 {Post : Tables → Env → Array Value → State → Outcome → State → Prop} (hpost : ∀ tb e args s v u, (limb_1_1.after args s (.returned v) u = true ∧ limb_1_2.after args s (.returned v) u = true) → FrameEnd s (.returned v) u (Jvm.fieldLocs frame_1_writes args s ++ Jvm.arrayLocs frame_1_arrays args s ++ Jvm.staticLocs frame_1_statics s) 0 0 → Post tb e args s (.returned v) u) :
    ArmFor flags0 classFile x code maxLocals ret World_1 tables_1 room_1 Calls_1 rest_1 Pre_1 Post := by
  intro l hfl _ _ p e ha hc hk s m args below hf hA hF happ hP
  obtain ⟨hcalls, hrest, hpre⟩ := hP
  obtain ⟨-, -, -, hnamed, -, -, -, hat⟩ := (Spec.applies_iff hf).mp happ
  obtain ⟨hg, hn⟩ := and_e (Cond.before_iff.mp (show (Jvm.Cond.and given_1 narrow_1).before args s = true from hpre))
  obtain ⟨hcnt, hg⟩ := and_e hg
  obtain ⟨hg0, hg⟩ := and_e hg
  obtain ⟨hg1, hg⟩ := and_e hg
  obtain ⟨hg2, hg⟩ := and_e hg
  have hg3 := hg
  obtain ⟨w0, w1, w2, w3, rfl⟩ : ∃ w0 w1 w2 w3 : Value, args = #[w0, w1, w2, w3] := by
    have hs : args.size = 4 := by simpa [Cond.value, given_1] using hcnt
    obtain ⟨L⟩ := args
    match L, hs with
    | [w0, w1, w2, w3], _ => exact ⟨w0, w1, w2, w3, rfl⟩
  have hw := fun d (hd : d ∈ tables_1) => atoms_spec (ws := Jvm.Cond.code x code maxLocals ret :: tables_1) hat d (List.mem_cons_of_mem _ hd)
  have hfit : Fit s := fun {y c} hc i hi => by
    obtain ⟨ha, rfl⟩ := Array.getElem?_eq_some_iff.mp hc
    have q := List.all_eq_true.mp ((Array.all_eq_true_iff_forall_mem.mp hF) _ (Array.getElem_mem ha)) i (List.mem_range.mpr hi)
    simpa [Array.getElem?_eq_getElem hi] using q
  obtain ⟨i0, ei0⟩ := is_v hg0
  obtain rfl : w0 = (.int i0) := Option.some.inj ei0
  obtain ⟨i1, ei1⟩ := is_v hg1
  obtain rfl : w1 = (.int i1) := Option.some.inj ei1
  obtain ⟨i2, ei2⟩ := isL_v hg2
  obtain rfl : w2 = (.long i2) := Option.some.inj ei2
  obtain ⟨i3, ei3⟩ := isL_v hg3
  obtain rfl : w3 = (.long i3) := Option.some.inj ei3
  obtain ⟨hn0, hn⟩ := and_e hn
  obtain ⟨hn1, hn⟩ := and_e hn
  obtain ⟨hn2, hn⟩ := and_e hn
  obtain ⟨hn3, hn⟩ := and_e hn
  obtain ⟨hn4, hn⟩ := and_e hn
  obtain ⟨hn5, hn⟩ := and_e hn
  obtain ⟨hn6, hn⟩ := and_e hn
  obtain ⟨hn7, hn⟩ := and_e hn
  obtain ⟨hn8, hn⟩ := and_e hn
  have hn9 := hn
  obtain ⟨a_TOP, ev_TOP⟩ := exa_v hn0
  have E_TOP : Exa s s.heap a_TOP "com/example/valtab/valtab/sign/Sign" := Exa.start ev_TOP hn0
  have S_TOP : Sta s s.heap "com/example/valtab/valtab/sign/Sign" "TOP" "Lcom/example/valtab/valtab/sign/Sign;" (.ref a_TOP) := Sta.start ev_TOP (Or.inr ⟨hw _ t_6, hw _ t_7⟩)
  obtain ⟨a_POSITIVE, ev_POSITIVE⟩ := exa_v hn1
  have E_POSITIVE : Exa s s.heap a_POSITIVE "com/example/valtab/valtab/sign/Sign" := Exa.start ev_POSITIVE hn1
  have S_POSITIVE : Sta s s.heap "com/example/valtab/valtab/sign/Sign" "POSITIVE" "Lcom/example/valtab/valtab/sign/Sign;" (.ref a_POSITIVE) := Sta.start ev_POSITIVE (Or.inr ⟨hw _ t_6, hw _ t_9⟩)
  obtain ⟨a_NEGATIVE, ev_NEGATIVE⟩ := exa_v hn2
  have E_NEGATIVE : Exa s s.heap a_NEGATIVE "com/example/valtab/valtab/sign/Sign" := Exa.start ev_NEGATIVE hn2
  have S_NEGATIVE : Sta s s.heap "com/example/valtab/valtab/sign/Sign" "NEGATIVE" "Lcom/example/valtab/valtab/sign/Sign;" (.ref a_NEGATIVE) := Sta.start ev_NEGATIVE (Or.inr ⟨hw _ t_6, hw _ t_20⟩)
  obtain ⟨a_ZERO, ev_ZERO⟩ := exa_v hn6
  have E_ZERO : Exa s s.heap a_ZERO "com/example/valtab/valtab/sign/Sign" := Exa.start ev_ZERO hn6
  have S_ZERO : Sta s s.heap "com/example/valtab/valtab/sign/Sign" "ZERO" "Lcom/example/valtab/valtab/sign/Sign;" (.ref a_ZERO) := Sta.start ev_ZERO (Or.inr ⟨hw _ t_6, hw _ t_27⟩)
  obtain ⟨a_BOTTOM, ev_BOTTOM⟩ := exa_v hn8
  have E_BOTTOM : Exa s s.heap a_BOTTOM "com/example/valtab/valtab/sign/Sign" := Exa.start ev_BOTTOM hn8
  have S_BOTTOM : Sta s s.heap "com/example/valtab/valtab/sign/Sign" "BOTTOM" "Lcom/example/valtab/valtab/sign/Sign;" (.ref a_BOTTOM) := Sta.start ev_BOTTOM (Or.inr ⟨hw _ t_6, hw _ t_29⟩)
  have F_POSITIVE_ordinal : Fld s s.heap a_POSITIVE "java/lang/Enum" "ordinal" "I" (.int (3 : Int32)) := Fld.start ((fld_at ev_POSITIVE).symm.trans (own_eqI hn3))
  have F_TOP_ordinal : Fld s s.heap a_TOP "java/lang/Enum" "ordinal" "I" (.int (0 : Int32)) := Fld.start ((fld_at ev_TOP).symm.trans (own_eqI hn4))
  have F_NEGATIVE_ordinal : Fld s s.heap a_NEGATIVE "java/lang/Enum" "ordinal" "I" (.int (1 : Int32)) := Fld.start ((fld_at ev_NEGATIVE).symm.trans (own_eqI hn5))
  have F_ZERO_ordinal : Fld s s.heap a_ZERO "java/lang/Enum" "ordinal" "I" (.int (2 : Int32)) := Fld.start ((fld_at ev_ZERO).symm.trans (own_eqI hn7))
  have F_BOTTOM_ordinal : Fld s s.heap a_BOTTOM "java/lang/Enum" "ordinal" "I" (.int (4 : Int32)) := Fld.start ((fld_at ev_BOTTOM).symm.trans (own_eqI hn9))
  have D : own_diff a_TOP a_NEGATIVE a_ZERO a_POSITIVE a_BOTTOM := ⟨Fld.ne F_TOP_ordinal F_NEGATIVE_ordinal (by decide), Fld.ne F_TOP_ordinal F_ZERO_ordinal (by decide), Fld.ne F_TOP_ordinal F_POSITIVE_ordinal (by decide), Fld.ne F_TOP_ordinal F_BOTTOM_ordinal (by decide), Fld.ne F_NEGATIVE_ordinal F_ZERO_ordinal (by decide), Fld.ne F_NEGATIVE_ordinal F_POSITIVE_ordinal (by decide), Fld.ne F_NEGATIVE_ordinal F_BOTTOM_ordinal (by decide), Fld.ne F_ZERO_ordinal F_POSITIVE_ordinal (by decide), Fld.ne F_ZERO_ordinal F_BOTTOM_ordinal (by decide), Fld.ne F_POSITIVE_ordinal F_BOTTOM_ordinal (by decide)⟩
  obtain ⟨n, o, h1, h2, h3, _, L, rfl, ⟨rfl, N⟩, hq⟩ := law0 l s _ hw a_TOP a_NEGATIVE a_ZERO a_POSITIVE a_BOTTOM i0 i1 i2 i3 s.heap S_TOP S_NEGATIVE S_ZERO S_POSITIVE S_BOTTOM E_TOP E_NEGATIVE E_ZERO E_POSITIVE E_BOTTOM D tables_1 p e ha hc hk s m _ below hf ((Spec.applies_iff_loose hf).mp happ).1 ⟨rfl, State.Warmed39.refl s, rfl⟩ trivial
  exact ⟨n, _, h1, h2, h3, hpost _ _ _ _ _ _ ⟨Cond.after_iff.mpr rfl, Cond.after_iff.mpr (eq_i res_at (Term.int_eval (1)) rfl)⟩ ⟨hq.1, hq.2.1, (hq.2.2.sift fun y hy => Or.inr (N y hy)).mono (by decide) (by decide)⟩⟩
theorem main_1_1 : Claimed_1_1 := comes_1 fun _ _ _ _ _ _ h hF => ⟨h.1, hF⟩
theorem main_1_2 : Claimed_1_2 := comes_1 fun _ _ _ _ _ _ h hF => ⟨h.2, hF⟩
end Jvm.Pilot.@@N@@
namespace Jvm.Pilot.@@N@@
open Jvm Jvm.ClassFile Sem Op Lib Jvm.Free Jvm.Stand Jvm.Pilot.@@N@@.Jvm.D
/-! MADE BY PROGRAM (witnessworld.py) out of the Statement's table words and the real class files: 12 classes; the members and pool entries that the words name. The judged class is class 1, her method 3. -/
namespace start1
open Jvm.ClassFile
def u (s : String) : CpInfo := .utf8 (stringToUtf16 s)
/-- a pool by its gaps: so many unusable entries, then the entry; so many at the end -/
def gap : Nat → List CpInfo → List CpInfo
  | 0, r => r
  | n + 1, r => .unusable :: gap n r
def poolList (es : List (Nat × CpInfo)) (last : Nat) : List CpInfo := es.foldr (fun e r => gap e.1 (e.2 :: r)) (gap last [])
def pool (es : List (Nat × CpInfo)) (last : Nat) : Array CpInfo := ⟨poolList es last⟩
def fileOf (pool : Array CpInfo) (this : Nat) (attrs : Array Attribute := #[]) (ms : Array MethodInfo := #[]) (fl : Nat := 33) (sup : Nat := 0) (ifs : Array Nat := #[]) (fds : Array FieldInfo := #[]) : ClassFile where
  minorVersion := 0
  majorVersion := 65
  constantPool := pool
  accessFlags := fl
  thisClass := this
  superClass := sup
  interfaces := ifs
  fields := fds
  methods := ms
  attributes := attrs
def plain (name : String) (sup : Option ClassId) : Class where
  name := name
  kind := .ordinary
  loader := none
  accessFlags := 33
  super := sup
  interfaces := #[]
  cf := none
  fields := #[]
  methods := #[]
  instanceTypes := #[]
  staticTypes := #[]
  resolved := #[]
  callSites := []
  init := .initialized
  statics := none
  mirror := none

def pool0 : Array CpInfo := pool [(5, u "<init>"), (0, u "()V"), (1, .class_ 10), (1, u "java/lang/Object")] 113

def k0m0 : Method := { name := "<init>", desc := "()V", sig := { parameters := [], returnType := none }, accessFlags := 1, code := none }
/-- java/lang/Object -/
def k0 : Class := { plain "java/lang/Object" none with
  accessFlags := 33
  interfaces := #[]
  cf := some (fileOf pool0 8 #[] #[{ accessFlags := 1, nameIndex := 5, descriptorIndex := 6, attributes := #[] }] 33 0 #[] #[])
  fields := #[]
  methods := #[k0m0]
  instanceTypes := #[]
  staticTypes := #[]
  resolved := Array.replicate 124 none
  statics := none }

def pool1 : Array CpInfo := pool [(2, .class_ 4), (1, u "java/lang/Object"), (0, u "<init>"), (0, u "()V"), (0, .fieldref 8 9), (0, .class_ 10), (0, .nameAndType 11 12), (0, u "com/example/valtab/valtab/sign/Sign"), (0, u "TOP"), (0, u "Lcom/example/valtab/valtab/sign/Sign;"), (0, .fieldref 8 14), (0, .nameAndType 15 12), (0, u "NEGATIVE"), (0, .fieldref 8 17), (0, .nameAndType 18 12), (0, u "ZERO"), (0, .fieldref 8 20), (0, .nameAndType 21 12), (0, u "POSITIVE"), (0, .fieldref 8 23), (0, .nameAndType 24 12), (0, u "BOTTOM"), (0, .integer 2147483647), (0, .methodref 27 28), (0, .class_ 29), (0, .nameAndType 30 31), (0, u "com/example/valtab/valtab/sign/SignMultiplyPinLaw"), (0, u "pick"), (0, u "(I)Lcom/example/valtab/valtab/sign/Sign;"), (0, .methodref 8 33), (0, .nameAndType 34 35), (0, u "multiply"), (0, u "(Lcom/example/valtab/valtab/sign/Sign;)Lcom/example/valtab/valtab/sign/Sign;"), (0, .methodref 27 37), (0, .nameAndType 38 39), (0, u "expected"), (0, u "(II)Lcom/example/valtab/valtab/sign/Sign;"), (0, .methodref 8 41), (0, .nameAndType 42 43), (0, u "of"), (0, u "(J)Lcom/example/valtab/valtab/sign/Sign;"), (3, u "law"), (0, u "(IIJJ)Z")] 2

def k1m0 : Method := { name := "<init>", desc := "()V", sig := { parameters := [], returnType := none }, accessFlags := 1, code := none }
def k1c1 : Code := { maxStack := 2, maxLocals := 1, code := method_2_code, exceptionTable := #[], attributes := #[] }
def k1m1 : Method := { name := "pick", desc := "(I)Lcom/example/valtab/valtab/sign/Sign;", sig := { parameters := [.int], returnType := some (.object "com/example/valtab/valtab/sign/Sign") }, accessFlags := 10, code := some k1c1 }
def k1c2 : Code := { maxStack := 3, maxLocals := 3, code := method_3_code, exceptionTable := #[], attributes := #[] }
def k1m2 : Method := { name := "expected", desc := "(II)Lcom/example/valtab/valtab/sign/Sign;", sig := { parameters := [.int, .int], returnType := some (.object "com/example/valtab/valtab/sign/Sign") }, accessFlags := 10, code := some k1c2 }
def k1c3 : Code := { maxStack := 5, maxLocals := 12, code := code, exceptionTable := #[], attributes := #[] }
def k1m3 : Method := { name := "law", desc := "(IIJJ)Z", sig := { parameters := [.int, .int, .long, .long], returnType := some .boolean }, accessFlags := 9, code := some k1c3 }
/-- com/example/valtab/valtab/sign/SignMultiplyPinLaw -/
def k1 : Class := { plain "com/example/valtab/valtab/sign/SignMultiplyPinLaw" (some 0) with
  accessFlags := 49
  interfaces := #[]
  cf := some (fileOf pool1 27 #[] #[{ accessFlags := 1, nameIndex := 5, descriptorIndex := 6, attributes := #[] }, { accessFlags := 10, nameIndex := 30, descriptorIndex := 31, attributes := #[] }, { accessFlags := 10, nameIndex := 38, descriptorIndex := 39, attributes := #[] }, { accessFlags := 9, nameIndex := 47, descriptorIndex := 48, attributes := #[] }] 49 2 #[] #[])
  fields := #[]
  methods := #[k1m0, k1m1, k1m2, k1m3]
  instanceTypes := #[]
  staticTypes := #[]
  resolved := Array.replicate 51 none
  statics := none }

def pool2 : Array CpInfo := pool [(1, .class_ 2), (0, u "java/lang/constant/Constable"), (0, .class_ 4), (0, u "java/lang/Object")] 6

/-- java/lang/constant/Constable -/
def k2 : Class := { plain "java/lang/constant/Constable" (some 0) with
  accessFlags := 1537
  interfaces := #[]
  cf := some (fileOf pool2 1 #[] #[] 1537 3 #[] #[])
  fields := #[]
  methods := #[]
  instanceTypes := #[]
  staticTypes := #[]
  resolved := Array.replicate 11 none
  statics := none }

def pool3 : Array CpInfo := pool [(1, .class_ 2), (0, u "java/lang/Comparable"), (0, .class_ 4), (0, u "java/lang/Object")] 7

/-- java/lang/Comparable -/
def k3 : Class := { plain "java/lang/Comparable" (some 0) with
  accessFlags := 1537
  interfaces := #[]
  cf := some (fileOf pool3 1 #[] #[] 1537 3 #[] #[])
  fields := #[]
  methods := #[]
  instanceTypes := #[]
  staticTypes := #[]
  resolved := Array.replicate 12 none
  statics := none }

def pool4 : Array CpInfo := pool [(1, .class_ 2), (0, u "java/io/Serializable"), (0, .class_ 4), (0, u "java/lang/Object")] 2

/-- java/io/Serializable -/
def k4 : Class := { plain "java/io/Serializable" (some 0) with
  accessFlags := 1537
  interfaces := #[]
  cf := some (fileOf pool4 1 #[] #[] 1537 3 #[] #[])
  fields := #[]
  methods := #[]
  instanceTypes := #[]
  staticTypes := #[]
  resolved := Array.replicate 7 none
  statics := none }

def pool5 : Array CpInfo := pool [(2, .class_ 4), (1, u "java/lang/Enum"), (0, u "name"), (0, u "Ljava/lang/String;"), (2, u "ordinal"), (0, u "I"), (1, .class_ 14), (1, u "java/lang/Object"), (4, u "hash"), (86, .class_ 108), (1, u "java/lang/Enum$EnumDesc"), (2, .class_ 112), (0, u "java/lang/constant/Constable"), (0, .class_ 114), (0, u "java/lang/Comparable"), (0, .class_ 116), (0, u "java/io/Serializable")] 87

/-- java/lang/Enum -/
def k5 : Class := { plain "java/lang/Enum" (some 0) with
  accessFlags := 1057
  interfaces := #[2, 3, 4]
  cf := some (fileOf pool5 2 #[.nestMembers #[106]] #[] 1057 12 #[111, 113, 115] #[{ accessFlags := 18, nameIndex := 5, descriptorIndex := 6, attributes := #[] }, { accessFlags := 18, nameIndex := 9, descriptorIndex := 10, attributes := #[] }, { accessFlags := 2, nameIndex := 19, descriptorIndex := 10, attributes := #[] }])
  fields := #[{ name := "name", type := (.object "java/lang/String"), accessFlags := 18, slot := 0, constantValue := 0 }, { name := "ordinal", type := .int, accessFlags := 18, slot := 1, constantValue := 0 }, { name := "hash", type := .int, accessFlags := 2, slot := 2, constantValue := 0 }]
  methods := #[]
  instanceTypes := #[(.object "java/lang/String"), .int, .int]
  staticTypes := #[]
  resolved := Array.replicate 204 none
  statics := none }

def pool6 : Array CpInfo := pool [(1, .class_ 2), (0, u "com/example/valtab/valtab/sign/Sign"), (0, .fieldref 1 4), (0, .nameAndType 5 6), (0, u "TOP"), (0, u "Lcom/example/valtab/valtab/sign/Sign;"), (0, .fieldref 1 8), (0, .nameAndType 9 6), (0, u "NEGATIVE"), (0, .fieldref 1 11), (0, .nameAndType 12 6), (0, u "ZERO"), (0, .fieldref 1 14), (0, .nameAndType 15 6), (0, u "POSITIVE"), (0, .fieldref 1 17), (0, .nameAndType 18 6), (0, u "BOTTOM"), (2, u "$VALUES"), (0, u "[Lcom/example/valtab/valtab/sign/Sign;"), (6, .class_ 31), (1, u "java/lang/Enum"), (8, u "symbol"), (0, u "Ljava/lang/String;"), (7, u "(Lcom/example/valtab/valtab/sign/Sign;)Lcom/example/valtab/valtab/sign/Sign;"), (29, u "of"), (0, u "(J)Lcom/example/valtab/valtab/sign/Sign;"), (4, u "multiply")] 5

def k6c0 : Code := { maxStack := 4, maxLocals := 3, code := prog_37_method_4_code, exceptionTable := #[], attributes := #[] }
def k6m0 : Method := { name := "of", desc := "(J)Lcom/example/valtab/valtab/sign/Sign;", sig := { parameters := [.long], returnType := some (.object "com/example/valtab/valtab/sign/Sign") }, accessFlags := 9, code := some k6c0 }
def k6c1 : Code := { maxStack := 2, maxLocals := 3, code := prog_37_method_10_code, exceptionTable := #[], attributes := #[] }
def k6m1 : Method := { name := "multiply", desc := "(Lcom/example/valtab/valtab/sign/Sign;)Lcom/example/valtab/valtab/sign/Sign;", sig := { parameters := [(.object "com/example/valtab/valtab/sign/Sign")], returnType := some (.object "com/example/valtab/valtab/sign/Sign") }, accessFlags := 1, code := some k6c1 }
/-- com/example/valtab/valtab/sign/Sign -/
def k6 : Class := { plain "com/example/valtab/valtab/sign/Sign" (some 5) with
  accessFlags := 16433
  interfaces := #[]
  cf := some (fileOf pool6 1 #[] #[{ accessFlags := 9, nameIndex := 79, descriptorIndex := 80, attributes := #[] }, { accessFlags := 1, nameIndex := 85, descriptorIndex := 49, attributes := #[] }] 16433 29 #[] #[{ accessFlags := 16409, nameIndex := 5, descriptorIndex := 6, attributes := #[] }, { accessFlags := 16409, nameIndex := 9, descriptorIndex := 6, attributes := #[] }, { accessFlags := 16409, nameIndex := 12, descriptorIndex := 6, attributes := #[] }, { accessFlags := 16409, nameIndex := 15, descriptorIndex := 6, attributes := #[] }, { accessFlags := 16409, nameIndex := 18, descriptorIndex := 6, attributes := #[] }, { accessFlags := 18, nameIndex := 40, descriptorIndex := 41, attributes := #[] }, { accessFlags := 4122, nameIndex := 21, descriptorIndex := 22, attributes := #[] }])
  fields := #[{ name := "TOP", type := (.object "com/example/valtab/valtab/sign/Sign"), accessFlags := 16409, slot := 0, constantValue := 0 }, { name := "NEGATIVE", type := (.object "com/example/valtab/valtab/sign/Sign"), accessFlags := 16409, slot := 1, constantValue := 0 }, { name := "ZERO", type := (.object "com/example/valtab/valtab/sign/Sign"), accessFlags := 16409, slot := 2, constantValue := 0 }, { name := "POSITIVE", type := (.object "com/example/valtab/valtab/sign/Sign"), accessFlags := 16409, slot := 3, constantValue := 0 }, { name := "BOTTOM", type := (.object "com/example/valtab/valtab/sign/Sign"), accessFlags := 16409, slot := 4, constantValue := 0 }, { name := "symbol", type := (.object "java/lang/String"), accessFlags := 18, slot := 3, constantValue := 0 }, { name := "$VALUES", type := (.array (.object "com/example/valtab/valtab/sign/Sign")), accessFlags := 4122, slot := 5, constantValue := 0 }]
  methods := #[k6m0, k6m1]
  instanceTypes := #[(.object "java/lang/String"), .int, .int, (.object "java/lang/String")]
  staticTypes := #[(.object "com/example/valtab/valtab/sign/Sign"), (.object "com/example/valtab/valtab/sign/Sign"), (.object "com/example/valtab/valtab/sign/Sign"), (.object "com/example/valtab/valtab/sign/Sign"), (.object "com/example/valtab/valtab/sign/Sign"), (.array (.object "com/example/valtab/valtab/sign/Sign"))]
  resolved := Array.replicate 91 none
  statics := some 0 }

def pool7 : Array CpInfo := pool [(1, u "java/lang/Cloneable"), (0, .class_ 1), (0, u "java/lang/Object"), (0, .class_ 3)] 3

/-- java/lang/Cloneable -/
def k7 : Class := { plain "java/lang/Cloneable" (some 0) with
  accessFlags := 1537
  interfaces := #[]
  cf := some (fileOf pool7 2 #[] #[] 1537 4 #[] #[])
  fields := #[]
  methods := #[]
  instanceTypes := #[]
  staticTypes := #[]
  resolved := Array.replicate 8 none
  statics := none }

/-- the primitive byte -/
def k8 : Class := { plain "byte" none with kind := .primitive 'B', accessFlags := 0x411 }
/-- [B -/
def k9 : Class := { plain "[B" (some 0) with kind := .array 8 .byte, interfaces := #[7, 4], accessFlags := 1041 }

/-- the primitive int -/
def k10 : Class := { plain "int" none with kind := .primitive 'I', accessFlags := 0x411 }
/-- [I -/
def k11 : Class := { plain "[I" (some 0) with kind := .array 10 .int, interfaces := #[7, 4], accessFlags := 1041 }

def heap : Heap := #[{ cls := 6, slots := #[.ref 1, .ref 2, .ref 3, .ref 4, .ref 5, .null], vm := .statics 6 },
  { cls := 6, slots := #[.null, .int 0, .int 0, .null], vm := .none },
  { cls := 6, slots := #[.null, .int 1, .int 0, .null], vm := .none },
  { cls := 6, slots := #[.null, .int 2, .int 0, .null], vm := .none },
  { cls := 6, slots := #[.null, .int 3, .int 0, .null], vm := .none },
  { cls := 6, slots := #[.null, .int 4, .int 0, .null], vm := .none }]
def classes : Array Class := #[k0, k1, k2, k3, k4, k5, k6, k7, k8, k9, k10, k11]
def interned : List (Array UInt16 × Addr) := []
def slotsUsed : Nat := 26
def theMethod : MethodId := ⟨1, 3⟩
def args0 : Array Value := #[.int 1, .int 2, .long 3, .long 4]
def aboutOver (below : List Frame) : State where
  vm := { classes := classes, interned := interned.toArray }
  heap := heap
  slotsUsed := slotsUsed
  threads := #[{ frames := .invoking theMethod args0 :: below }]
def below0 : List Frame := [.native { method := ⟨0, 0⟩, args := #[] }]
def about1 : State := aboutOver below0
def p0 : Program := .bare "" "" ""
def e0 : Env := launch0.env 0 0 0
theorem w_frames : about1.frames = Frame.invoking theMethod args0 :: below0 := rfl
set_option maxRecDepth 65536 in
theorem w_args : argsFit about1.vm theMethod args0 = true := by decide +kernel
set_option maxRecDepth 65536 in
theorem w_heap : heapFits about1 = true := by decide +kernel
set_option maxRecDepth 65536 in
theorem w_runnable : about1.curStatus? = some .runnable := by decide +kernel
set_option maxRecDepth 65536 in
theorem w_alone : about1.alone = true := by decide +kernel
set_option maxRecDepth 65536 in
theorem w_named : about1.methodNamed? x = some theMethod := by decide +kernel
set_option maxRecDepth 65536 in
theorem w_hears : about1.hears theMethod below0 = true := by decide +kernel
set_option maxRecDepth 65536 in
theorem w_ripe : about1.ripe theMethod args0 below0 = true := by decide +kernel
theorem w_running : about1.status = .running := rfl
set_option maxRecDepth 65536 in
theorem w_room : about1.hasRoom e0.platform room_1 = true :=
  launch0.hasRoom_least _ room_1 (by decide +kernel) (by decide +kernel) (by decide +kernel) (by decide +kernel) (by decide +kernel) (by decide +kernel)
theorem allAtoms_all (ts : List Jvm.Cond) (a : Array Jvm.Value) (st : Jvm.State) : (allAtoms ts).before a st = ts.all (fun c => c.before a st) := by
  induction ts with
  | nil => rfl
  | cons c t ih =>
    show (Jvm.Cond.and c (allAtoms t)).before a st = _
    rw [Jvm.Cond.before_and, ih, List.all_cons]
def words1 : List Jvm.Cond := Jvm.Cond.code x code maxLocals ret :: tables_1
/-- a 'code' word, met by the world's own term for the bytes: nothing is compared byte by byte -/
theorem code_word {y : MethodName} {bytes : ByteArray} {mx : Nat} {rt : Option FieldType} {a : Array Value} {s : State} {m : MethodId} {meth : Method} {c : Code} (h1 : s.methodNamed? y = some m) (h2 : s.vm.method? m = some meth) (h3 : meth.code = some c) (h4 : c.code = bytes)
    (h5 : (c.maxLocals == mx && c.exceptionTable.isEmpty && decide (c.maxStack ≤ mostOperands) && decide (meth.sig.returnType = rt) && !meth.locks && decide (parseMethodDescriptor y.desc = some meth.sig)) = true) : (Jvm.Cond.code y bytes mx rt).before a s = true := by
  simp only [Bool.and_eq_true, beq_iff_eq, Bool.not_eq_true', decide_eq_true_eq] at h5
  obtain ⟨⟨⟨⟨⟨g1, g2⟩, g3⟩, g4⟩, g5⟩, g6⟩ := h5
  simp [Cond.before, Cond.holds, Cond.value, h1, h2, h3, h4, g1, g2, g3, g4, g5, g6]
def isCode : Jvm.Cond → Bool
  | .code _ _ _ _ => true
  | _ => false
theorem all_split {L : List Jvm.Cond} {P : Jvm.Cond → Bool} (h1 : L.all (fun c => isCode c || P c) = true) (h2 : ∀ c ∈ L.filter isCode, P c = true) : L.all P = true := by
  refine List.all_eq_true.mpr fun c hc => ?_
  have h := List.all_eq_true.mp h1 c hc
  rcases Bool.eq_false_or_eq_true (isCode c) with hi | hi
  · exact h2 c (List.mem_filter.mpr ⟨hc, hi⟩)
  · simpa [hi] using h
set_option maxRecDepth 65536 in
theorem w_c0 : (Jvm.Cond.code x code maxLocals ret).before args0 about1 = true := code_word (m := ⟨1, 3⟩) (meth := k1m3) (c := k1c3) (by decide +kernel) rfl rfl rfl (by decide +kernel)
set_option maxRecDepth 65536 in
theorem w_c1 : (Jvm.Cond.code ({ cls := "com/example/valtab/valtab/sign/SignMultiplyPinLaw", name := "pick", desc := "(I)Lcom/example/valtab/valtab/sign/Sign;" } : Jvm.MethodName) method_2_code (1 : Nat) (Option.some (Jvm.ClassFile.FieldType.object "com/example/valtab/valtab/sign/Sign"))).before args0 about1 = true := code_word (m := ⟨1, 1⟩) (meth := k1m1) (c := k1c1) (by decide +kernel) rfl rfl rfl (by decide +kernel)
set_option maxRecDepth 65536 in
theorem w_c2 : (Jvm.Cond.code ({ cls := "com/example/valtab/valtab/sign/Sign", name := "multiply", desc := "(Lcom/example/valtab/valtab/sign/Sign;)Lcom/example/valtab/valtab/sign/Sign;" } : Jvm.MethodName) prog_37_method_10_code (3 : Nat) (Option.some (Jvm.ClassFile.FieldType.object "com/example/valtab/valtab/sign/Sign"))).before args0 about1 = true := code_word (m := ⟨6, 1⟩) (meth := k6m1) (c := k6c1) (by decide +kernel) rfl rfl rfl (by decide +kernel)
set_option maxRecDepth 65536 in
theorem w_c3 : (Jvm.Cond.code ({ cls := "com/example/valtab/valtab/sign/SignMultiplyPinLaw", name := "expected", desc := "(II)Lcom/example/valtab/valtab/sign/Sign;" } : Jvm.MethodName) method_3_code (3 : Nat) (Option.some (Jvm.ClassFile.FieldType.object "com/example/valtab/valtab/sign/Sign"))).before args0 about1 = true := code_word (m := ⟨1, 2⟩) (meth := k1m2) (c := k1c2) (by decide +kernel) rfl rfl rfl (by decide +kernel)
set_option maxRecDepth 65536 in
theorem w_c4 : (Jvm.Cond.code ({ cls := "com/example/valtab/valtab/sign/Sign", name := "of", desc := "(J)Lcom/example/valtab/valtab/sign/Sign;" } : Jvm.MethodName) prog_37_method_4_code (3 : Nat) (Option.some (Jvm.ClassFile.FieldType.object "com/example/valtab/valtab/sign/Sign"))).before args0 about1 = true := code_word (m := ⟨6, 0⟩) (meth := k6m0) (c := k6c0) (by decide +kernel) rfl rfl rfl (by decide +kernel)
def codes1 : List Jvm.Cond := [Jvm.Cond.code x code maxLocals ret, Jvm.Cond.code ({ cls := "com/example/valtab/valtab/sign/SignMultiplyPinLaw", name := "pick", desc := "(I)Lcom/example/valtab/valtab/sign/Sign;" } : Jvm.MethodName) method_2_code (1 : Nat) (Option.some (Jvm.ClassFile.FieldType.object "com/example/valtab/valtab/sign/Sign")), Jvm.Cond.code ({ cls := "com/example/valtab/valtab/sign/Sign", name := "multiply", desc := "(Lcom/example/valtab/valtab/sign/Sign;)Lcom/example/valtab/valtab/sign/Sign;" } : Jvm.MethodName) prog_37_method_10_code (3 : Nat) (Option.some (Jvm.ClassFile.FieldType.object "com/example/valtab/valtab/sign/Sign")), Jvm.Cond.code ({ cls := "com/example/valtab/valtab/sign/SignMultiplyPinLaw", name := "expected", desc := "(II)Lcom/example/valtab/valtab/sign/Sign;" } : Jvm.MethodName) method_3_code (3 : Nat) (Option.some (Jvm.ClassFile.FieldType.object "com/example/valtab/valtab/sign/Sign")), Jvm.Cond.code ({ cls := "com/example/valtab/valtab/sign/Sign", name := "of", desc := "(J)Lcom/example/valtab/valtab/sign/Sign;" } : Jvm.MethodName) prog_37_method_4_code (3 : Nat) (Option.some (Jvm.ClassFile.FieldType.object "com/example/valtab/valtab/sign/Sign"))]
set_option maxRecDepth 65536 in
theorem codes_eq : words1.filter isCode = codes1 := rfl
theorem w_codes : ∀ c ∈ words1.filter isCode, c.before args0 about1 = true := by
  rw [codes_eq]
  intro c hc
  simp only [codes1, List.mem_cons, List.not_mem_nil, or_false] at hc
  rcases hc with rfl | rfl | rfl | rfl | rfl
  · exact w_c0
  · exact w_c1
  · exact w_c2
  · exact w_c3
  · exact w_c4
set_option maxRecDepth 65536 in
theorem w_t1 : (words1.take 24).all (fun c => isCode c || c.before args0 about1) = true := by decide +kernel
set_option maxRecDepth 65536 in
theorem w_t2 : (words1.drop 24).all (fun c => isCode c || c.before args0 about1) = true := by decide +kernel
theorem w_tables : (allAtoms (Jvm.Cond.code x code maxLocals ret :: tables_1)).before args0 about1 = true := by
  rw [allAtoms_all]
  show words1.all (fun c => c.before args0 about1) = true
  refine all_split ?_ w_codes
  rw [← List.take_append_drop 24 words1, List.all_append, w_t1, w_t2]
  rfl
set_option maxRecDepth 65536 in
theorem w_case : (Jvm.Cond.and given_1 narrow_1).before args0 about1 = true := by decide +kernel
theorem w_applies : (headSpec (Jvm.Cond.code x code maxLocals ret :: tables_1) room_1).applies x e0.platform about1 = true :=
  (Spec.applies_iff w_frames).mpr ⟨w_running, w_runnable, w_alone, w_named, w_hears, w_ripe, w_room, w_tables⟩
theorem atStart : AtStart classFile x code maxLocals ret World_1 tables_1 room_1 Calls_1 rest_1 Pre_1 launch0 p0 e0 about1 theMethod args0 below0 :=
  ⟨lists_1, trivial, launch0.admits_env _ _ _, launch0.least_env, fairChoices_fair.cas, fairChoices_fair.clock, w_frames, w_args, w_heap, w_applies, trivial, trivial, w_case⟩
end start1
theorem witness_1 : WitnessClaimed_1 := ⟨start1.p0, start1.e0, start1.about1, start1.theMethod, start1.args0, start1.below0, start1.atStart⟩
end Jvm.Pilot.@@N@@
