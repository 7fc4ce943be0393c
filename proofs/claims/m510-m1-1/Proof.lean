import JvmDerived
import JvmDerived.Pilot.@@N@@Statement
import JvmDerived.Pilot.@@N@@Code
set_option linter.unusedVariables false
set_option linter.unusedSimpArgs false
namespace Jvm.RoadKit
open Sem ClassFile Op Lib Jvm.Stand Jvm.Free Jvm.LawKit
theorem Ext.keep {h h' : Heap} (E : Ext h h') (ws : List Addr) : Keep h h' ws := (Keep.refl _ _).ext E
theorem Keep.toExt {h h' : Heap} (K : Keep h h' []) : Ext h h' := ⟨K.1, fun a c q => K.2.1 a c q nin0⟩
theorem Sta.keep {Z : State} {h : Heap} {C f d : String} {v : Value} {h' : Heap} {ws : List Addr} (F : Sta Z h C f d v) (K : Keep h h' ws) (q : ∀ x ∈ ws, ∃ c : Cell, h[x]? = some c ∧ c.vm.isStatics = false) : Sta Z h' C f d v := by
  obtain ⟨cf, i, k, f, st, cell, h1, h2, h3, h4, h5, h6, h7⟩ := F
  exact ⟨cf, i, k, f, st, cell, h1, h2, h3, h4, K.2.1 st cell h5 (fun z => by obtain ⟨c, e1, e2⟩ := q st z; cases e1.symm.trans h5; rw [e2] at h6; cases h6), h6, h7⟩
theorem Ins.keep {Z : State} {h : Heap} {a : Addr} {C : String} {b : Bool} {h' : Heap} {ws : List Addr} (F : Ins Z h a C b) (K : Keep h h' ws) : Ins Z h' a C b := by
  obtain ⟨cell, cT, h1, h2, h3⟩ := F
  obtain ⟨c', q, r1, r2, -⟩ := K.2.2 a cell h1
  exact ⟨c', cT, q, h2, by rw [r1, r2]; exact h3⟩
end Jvm.RoadKit
namespace Jvm.Pilot.@@N@@
open Jvm Jvm.ClassFile Sem Op Lib Jvm.Free Jvm.Stand Jvm.LawKit Jvm.RoadKit Bundle Jvm.Pilot.@@N@@.Jvm.D
/-- what a walk is about: all that is fixed while one body runs -/
abbrev Wk : Type := Program × Launch × Env × Room × State × MethodId × Array Value × List Frame × Method × Code × State × Nat
def Cx (w : Wk) (R : Room) (Z : State) (n0 : Nat) (own : String) (bytes : ByteArray) (mx : Nat) (rt : Option FieldType) (nm : String) : Prop :=
  match w with
  | ⟨p, _, _, R', s, m, _, _, meth, c, Z', k⟩ => p.tables.exec = Jvm.exec ∧ c.code = bytes ∧ c.maxLocals = mx ∧ s.vm.findClass own = some m.cls ∧ Z.Warmed39 s.vm ∧ meth.sig.returnType = rt ∧ meth.name = nm ∧ meth.locks = false ∧ R' = R ∧ Z' = Z ∧ k = n0 ∧ n0 ≤ s.heap.size
def At1 (w : Wk) (T : State) (h : Heap) (k n : Nat) : Prop :=
  match w with
  | ⟨p, l, e, R, s, m, args, below, meth, c, _, n0⟩ => ∃ locs, Stand p l e R s m args below meth c T locs k n ∧ T.heap = h ∧ Fr n0 locs
def Go (w : Wk) (Q : Option Value → Heap → Prop) (T : State) (pc : Nat) (L : Array Slot) (st : List Value) : Prop :=
  match w with
  | ⟨p, _, e, R, s, m, _, below, _, _, _, n0⟩ => ∃ s₂ o, Steps p.tables e below (T.setTop (mkF m pc L st)) s₂ ∧ s₂.status = .running ∧ Ended s₂ below o ∧ ∃ v Lc, o = .returned v ∧ (Q v s₂.heap ∧ Fr n0 Lc) ∧ FrameEnd s o s₂ Lc R.cells R.slots
def Dc (bytes : ByteArray) (pc : Nat) (i : Instr) (n pc' : Nat) : Prop := decode bytes pc = .ok (i, n) ∧ pc + n = pc'
/-- a callee's contract -/
def Con (l : Launch) (Z : State) (y : MethodName) (bytes : ByteArray) (mx : Nat) (rt : Option FieldType) (R : Room) (as' : Array Value) (h0 : Heap) (n0 : Nat) (Q : Option Value → Heap → Prop) : Prop :=
  ∀ ws, MetFree l y (head1 (Jvm.Cond.code y bytes mx rt :: ws) R) (fun a U => a = as' ∧ Z.Warmed39 U.vm ∧ U.heap = h0) (fun _ _ _ _ _ => True) (fun _ U o U' => ∃ v L, o = .returned v ∧ (Q v U'.heap ∧ Fr n0 L) ∧ FrameEnd U o U' L R.cells R.slots)
def RI (P : Int32 → Heap → Prop) : Option Value → Heap → Prop := fun v h => ∃ z : Int32, v = some (.int z) ∧ P z h
def RL (P : Int64 → Heap → Prop) : Option Value → Heap → Prop := fun v h => ∃ z : Int64, v = some (.long z) ∧ P z h
def RR (P : Value → Heap → Prop) : Option Value → Heap → Prop := fun v h => ∃ z : Value, v = some z ∧ z.isRef = true ∧ P z h
def RV (P : Heap → Prop) : Option Value → Heap → Prop := fun v h => v = none ∧ P h
/-- Java's x >>> y -/
def iU (x y : Int32) : Int32 := (x.toUInt32 >>> (y &&& 31).toUInt32).toInt32
def lU (x : Int64) (y : Int32) : Int64 := (x.toUInt64 >>> (y &&& 0x3f).toInt64.toUInt64).toInt64
section Own
variable {w : Wk} {R : Room} {Z : State} {n0 : Nat} {own : String} {bytes : ByteArray} {mx : Nat} {rt : Option FieldType} {nm : String} {T : State} {h : Heap} {k n : Nat} {Q : Option Value → Heap → Prop} {pc pc' : Nat} {L L' : Array Slot} {st st' : List Value}
theorem con_intro {l : Launch} {y : MethodName} {as' : Array Value} {h0 : Heap} (hp : plainFor y = true) (hef : ∀ m, entryFrame m as' mx = mkF m 0 L []) (hz : n0 ≤ h0.size)
    (body : ∀ w T, Cx w R Z n0 y.cls bytes mx rt y.name → At1 w T h0 0 0 → Go w Q T 0 L []) : Con l Z y bytes mx rt R as' h0 n0 Q := by
  intro ws
  refine MetFree.of_bodySF hp hisR ?_
  intro p e s m args below meth c s₁ Bd hml0 hP hK
  obtain ⟨rfl, hZ, hh⟩ := hP
  have X0 : Stand p l e R s m args below meth c s₁ [] 0 0 := Stand.of_body Bd
  have e0 : s₁.heap = h0 := by rw [← hh, Bd.state]; rfl
  have B := body ⟨p, l, e, R, s, m, args, below, meth, c, Z, n0⟩ s₁ ⟨Bd.exec, Bd.bytes, hml0, findClass_of_methodNamed Bd.named, hZ, Bd.returns, (name_of_methodNamed Bd.named Bd.method).1, Bd.notSynchronized, rfl, rfl, rfl, by rw [hh]; exact hz⟩ ⟨[], X0, e0, Fr.nil n0⟩
  obtain ⟨s₂, o, h1, h2⟩ := B
  exact ⟨s₂, o, castTop (hef m) h1, h2⟩
theorem go_step (K : Cx w R Z n0 own bytes mx rt nm) (H : At1 w T h k n)
    (hs : ∀ (p : Program) (e : Env) (m : MethodId) (below : List Frame) (c : Code), p.tables.exec = Jvm.exec → c.code = bytes → At T m c below → ∀ t, Steps p.tables e below (T.setTop (mkF m pc' L' st')) t → Steps p.tables e below (T.setTop (mkF m pc L st)) t)
    (G : Go w Q T pc' L' st') : Go w Q T pc L st := by
  obtain ⟨p, l, e, R', s, m, args, below, meth, c, Z', k0⟩ := w
  obtain ⟨hx, hby, -⟩ := K
  obtain ⟨locs, X, -⟩ := H
  obtain ⟨s₂, o, h1, h2⟩ := G
  exact ⟨s₂, o, hs p e m below c hx hby X.here _ h1, h2⟩
theorem dcb {c : Code} {i : Instr} {q : Nat} (hby : c.code = bytes) (d : Dc bytes pc i q pc') : decode c.code pc = .ok (i, q) := by rw [hby]; exact d.1
theorem go_iadd {x y : Int32} (K : Cx w R Z n0 own bytes mx rt nm) (H : At1 w T h k n) (d : Dc bytes pc .iadd 1 pc') (G : ∀ z : Int32, z = x + y → Go w Q T pc' L (.int z :: st)) : Go w Q T pc L (.int y :: .int x :: st) := by
  obtain ⟨d1, rfl⟩ := d
  exact go_step K H (fun p e m below c hx hby hA t kk => XS.iadd hA hx rfl (by rw [hby]; exact d1) rfl kk) (G _ rfl)
theorem go_ladd {x y : Int64} (K : Cx w R Z n0 own bytes mx rt nm) (H : At1 w T h k n) (d : Dc bytes pc .ladd 1 pc') (G : ∀ z : Int64, z = x + y → Go w Q T pc' L (.long z :: st)) : Go w Q T pc L (.long y :: .long x :: st) := by
  obtain ⟨d1, rfl⟩ := d
  exact go_step K H (fun p e m below c hx hby hA t kk => XS.ladd hA hx rfl (by rw [hby]; exact d1) rfl kk) (G _ rfl)
theorem go_isub {x y : Int32} (K : Cx w R Z n0 own bytes mx rt nm) (H : At1 w T h k n) (d : Dc bytes pc .isub 1 pc') (G : ∀ z : Int32, z = x - y → Go w Q T pc' L (.int z :: st)) : Go w Q T pc L (.int y :: .int x :: st) := by
  obtain ⟨d1, rfl⟩ := d
  exact go_step K H (fun p e m below c hx hby hA t kk => XS.isub hA hx rfl (by rw [hby]; exact d1) rfl kk) (G _ rfl)
theorem go_lsub {x y : Int64} (K : Cx w R Z n0 own bytes mx rt nm) (H : At1 w T h k n) (d : Dc bytes pc .lsub 1 pc') (G : ∀ z : Int64, z = x - y → Go w Q T pc' L (.long z :: st)) : Go w Q T pc L (.long y :: .long x :: st) := by
  obtain ⟨d1, rfl⟩ := d
  exact go_step K H (fun p e m below c hx hby hA t kk => XS.lsub hA hx rfl (by rw [hby]; exact d1) rfl kk) (G _ rfl)
theorem go_imul {x y : Int32} (K : Cx w R Z n0 own bytes mx rt nm) (H : At1 w T h k n) (d : Dc bytes pc .imul 1 pc') (G : ∀ z : Int32, z = x * y → Go w Q T pc' L (.int z :: st)) : Go w Q T pc L (.int y :: .int x :: st) := by
  obtain ⟨d1, rfl⟩ := d
  exact go_step K H (fun p e m below c hx hby hA t kk => XS.imul hA hx rfl (by rw [hby]; exact d1) rfl kk) (G _ rfl)
theorem go_lmul {x y : Int64} (K : Cx w R Z n0 own bytes mx rt nm) (H : At1 w T h k n) (d : Dc bytes pc .lmul 1 pc') (G : ∀ z : Int64, z = x * y → Go w Q T pc' L (.long z :: st)) : Go w Q T pc L (.long y :: .long x :: st) := by
  obtain ⟨d1, rfl⟩ := d
  exact go_step K H (fun p e m below c hx hby hA t kk => XS.lmul hA hx rfl (by rw [hby]; exact d1) rfl kk) (G _ rfl)
theorem go_iand {x y : Int32} (K : Cx w R Z n0 own bytes mx rt nm) (H : At1 w T h k n) (d : Dc bytes pc .iand 1 pc') (G : ∀ z : Int32, z = x &&& y → Go w Q T pc' L (.int z :: st)) : Go w Q T pc L (.int y :: .int x :: st) := by
  obtain ⟨d1, rfl⟩ := d
  exact go_step K H (fun p e m below c hx hby hA t kk => XS.iand hA hx rfl (by rw [hby]; exact d1) rfl kk) (G _ rfl)
theorem go_land {x y : Int64} (K : Cx w R Z n0 own bytes mx rt nm) (H : At1 w T h k n) (d : Dc bytes pc .land 1 pc') (G : ∀ z : Int64, z = x &&& y → Go w Q T pc' L (.long z :: st)) : Go w Q T pc L (.long y :: .long x :: st) := by
  obtain ⟨d1, rfl⟩ := d
  exact go_step K H (fun p e m below c hx hby hA t kk => XS.land hA hx rfl (by rw [hby]; exact d1) rfl kk) (G _ rfl)
theorem go_ior {x y : Int32} (K : Cx w R Z n0 own bytes mx rt nm) (H : At1 w T h k n) (d : Dc bytes pc .ior 1 pc') (G : ∀ z : Int32, z = x ||| y → Go w Q T pc' L (.int z :: st)) : Go w Q T pc L (.int y :: .int x :: st) := by
  obtain ⟨d1, rfl⟩ := d
  exact go_step K H (fun p e m below c hx hby hA t kk => XS.ior hA hx rfl (by rw [hby]; exact d1) rfl kk) (G _ rfl)
theorem go_lor {x y : Int64} (K : Cx w R Z n0 own bytes mx rt nm) (H : At1 w T h k n) (d : Dc bytes pc .lor 1 pc') (G : ∀ z : Int64, z = x ||| y → Go w Q T pc' L (.long z :: st)) : Go w Q T pc L (.long y :: .long x :: st) := by
  obtain ⟨d1, rfl⟩ := d
  exact go_step K H (fun p e m below c hx hby hA t kk => XS.lor hA hx rfl (by rw [hby]; exact d1) rfl kk) (G _ rfl)
theorem go_ixor {x y : Int32} (K : Cx w R Z n0 own bytes mx rt nm) (H : At1 w T h k n) (d : Dc bytes pc .ixor 1 pc') (G : ∀ z : Int32, z = x ^^^ y → Go w Q T pc' L (.int z :: st)) : Go w Q T pc L (.int y :: .int x :: st) := by
  obtain ⟨d1, rfl⟩ := d
  exact go_step K H (fun p e m below c hx hby hA t kk => XS.ixor hA hx rfl (by rw [hby]; exact d1) rfl kk) (G _ rfl)
theorem go_lxor {x y : Int64} (K : Cx w R Z n0 own bytes mx rt nm) (H : At1 w T h k n) (d : Dc bytes pc .lxor 1 pc') (G : ∀ z : Int64, z = x ^^^ y → Go w Q T pc' L (.long z :: st)) : Go w Q T pc L (.long y :: .long x :: st) := by
  obtain ⟨d1, rfl⟩ := d
  exact go_step K H (fun p e m below c hx hby hA t kk => XS.lxor hA hx rfl (by rw [hby]; exact d1) rfl kk) (G _ rfl)
theorem go_ishl {x y : Int32} (K : Cx w R Z n0 own bytes mx rt nm) (H : At1 w T h k n) (d : Dc bytes pc .ishl 1 pc') (G : ∀ z : Int32, z = x <<< (y &&& 31) → Go w Q T pc' L (.int z :: st)) : Go w Q T pc L (.int y :: .int x :: st) := by
  obtain ⟨d1, rfl⟩ := d
  exact go_step K H (fun p e m below c hx hby hA t kk => XS.ishl hA hx rfl (by rw [hby]; exact d1) rfl kk) (G _ rfl)
theorem go_ishr {x y : Int32} (K : Cx w R Z n0 own bytes mx rt nm) (H : At1 w T h k n) (d : Dc bytes pc .ishr 1 pc') (G : ∀ z : Int32, z = x >>> (y &&& 31) → Go w Q T pc' L (.int z :: st)) : Go w Q T pc L (.int y :: .int x :: st) := by
  obtain ⟨d1, rfl⟩ := d
  exact go_step K H (fun p e m below c hx hby hA t kk => XS.ishr hA hx rfl (by rw [hby]; exact d1) rfl kk) (G _ rfl)
theorem go_iushr {x y : Int32} (K : Cx w R Z n0 own bytes mx rt nm) (H : At1 w T h k n) (d : Dc bytes pc .iushr 1 pc') (G : ∀ z : Int32, z = iU x y → Go w Q T pc' L (.int z :: st)) : Go w Q T pc L (.int y :: .int x :: st) := by
  obtain ⟨d1, rfl⟩ := d
  exact go_step K H (fun p e m below c hx hby hA t kk => XS.iushr hA hx rfl (by rw [hby]; exact d1) rfl kk) (G _ rfl)
theorem go_lshl {x : Int64} {y : Int32} (K : Cx w R Z n0 own bytes mx rt nm) (H : At1 w T h k n) (d : Dc bytes pc .lshl 1 pc') (G : ∀ z : Int64, z = x <<< (y &&& 0x3f).toInt64 → Go w Q T pc' L (.long z :: st)) : Go w Q T pc L (.int y :: .long x :: st) := by
  obtain ⟨d1, rfl⟩ := d
  exact go_step K H (fun p e m below c hx hby hA t kk => XS.lshl hA hx rfl (by rw [hby]; exact d1) rfl kk) (G _ rfl)
theorem go_lshr {x : Int64} {y : Int32} (K : Cx w R Z n0 own bytes mx rt nm) (H : At1 w T h k n) (d : Dc bytes pc .lshr 1 pc') (G : ∀ z : Int64, z = x >>> (y &&& 0x3f).toInt64 → Go w Q T pc' L (.long z :: st)) : Go w Q T pc L (.int y :: .long x :: st) := by
  obtain ⟨d1, rfl⟩ := d
  exact go_step K H (fun p e m below c hx hby hA t kk => XS.lshr hA hx rfl (by rw [hby]; exact d1) rfl kk) (G _ rfl)
theorem go_lushr {x : Int64} {y : Int32} (K : Cx w R Z n0 own bytes mx rt nm) (H : At1 w T h k n) (d : Dc bytes pc .lushr 1 pc') (G : ∀ z : Int64, z = lU x y → Go w Q T pc' L (.long z :: st)) : Go w Q T pc L (.int y :: .long x :: st) := by
  obtain ⟨d1, rfl⟩ := d
  exact go_step K H (fun p e m below c hx hby hA t kk => XS.lushr hA hx rfl (by rw [hby]; exact d1) rfl kk) (G _ rfl)
theorem go_idiv {x y : Int32} (K : Cx w R Z n0 own bytes mx rt nm) (H : At1 w T h k n) (d : Dc bytes pc .idiv 1 pc') (hy : y ≠ 0) (G : ∀ z : Int32, z = x / y → Go w Q T pc' L (.int z :: st)) : Go w Q T pc L (.int y :: .int x :: st) := by
  obtain ⟨d1, rfl⟩ := d
  exact go_step K H (fun p e m below c hx hby hA t kk => XS.idiv hA hx rfl (by rw [hby]; exact d1) rfl hy kk) (G _ rfl)
theorem go_irem (K : Cx w R Z n0 own bytes mx rt nm) (H : At1 w T h k n) {x y : Int32} (d : Dc bytes pc .irem 1 pc') (hy : y ≠ 0) (G : ∀ z : Int32, z = x % y → Go w Q T pc' L (.int z :: st)) : Go w Q T pc L (.int y :: .int x :: st) := by
  obtain ⟨d1, rfl⟩ := d
  exact go_step K H (fun p e m below c hx hby hA t kk => XS.irem hA hx rfl (by rw [hby]; exact d1) rfl hy (by rw [irem_eq_mod]; exact kk)) (G _ rfl)
theorem go_ldiv {x y : Int64} (K : Cx w R Z n0 own bytes mx rt nm) (H : At1 w T h k n) (d : Dc bytes pc .ldiv 1 pc') (hy : y ≠ 0) (G : ∀ z : Int64, z = x / y → Go w Q T pc' L (.long z :: st)) : Go w Q T pc L (.long y :: .long x :: st) := by
  obtain ⟨d1, rfl⟩ := d
  exact go_step K H (fun p e m below c hx hby hA t kk => XS.ldiv hA hx rfl (by rw [hby]; exact d1) rfl hy kk) (G _ rfl)
theorem go_lrem {x y : Int64} (K : Cx w R Z n0 own bytes mx rt nm) (H : At1 w T h k n) (d : Dc bytes pc .lrem 1 pc') (hy : y ≠ 0) (G : ∀ z : Int64, z = x - (x / y) * y → Go w Q T pc' L (.long z :: st)) : Go w Q T pc L (.long y :: .long x :: st) := by
  obtain ⟨d1, rfl⟩ := d
  exact go_step K H (fun p e m below c hx hby hA t kk => XS.lrem hA hx rfl (by rw [hby]; exact d1) rfl hy kk) (G _ rfl)
theorem go_ineg {x : Int32} (K : Cx w R Z n0 own bytes mx rt nm) (H : At1 w T h k n) (d : Dc bytes pc .ineg 1 pc') (G : ∀ z : Int32, z = -x → Go w Q T pc' L (.int z :: st)) : Go w Q T pc L (.int x :: st) := by
  obtain ⟨d1, rfl⟩ := d
  exact go_step K H (fun p e m below c hx hby hA t kk => XS.ineg hA hx rfl (by rw [hby]; exact d1) rfl kk) (G _ rfl)
theorem go_lneg {x : Int64} (K : Cx w R Z n0 own bytes mx rt nm) (H : At1 w T h k n) (d : Dc bytes pc .lneg 1 pc') (G : ∀ z : Int64, z = -x → Go w Q T pc' L (.long z :: st)) : Go w Q T pc L (.long x :: st) := by
  obtain ⟨d1, rfl⟩ := d
  exact go_step K H (fun p e m below c hx hby hA t kk => XS.lneg hA hx rfl (by rw [hby]; exact d1) rfl kk) (G _ rfl)
theorem go_i2l {x : Int32} (K : Cx w R Z n0 own bytes mx rt nm) (H : At1 w T h k n) (d : Dc bytes pc .i2l 1 pc') (G : ∀ z : Int64, z = x.toInt64 → Go w Q T pc' L (.long z :: st)) : Go w Q T pc L (.int x :: st) := by
  obtain ⟨d1, rfl⟩ := d
  exact go_step K H (fun p e m below c hx hby hA t kk => XS.i2l hA hx rfl (by rw [hby]; exact d1) rfl kk) (G _ rfl)
theorem go_l2i {x : Int64} (K : Cx w R Z n0 own bytes mx rt nm) (H : At1 w T h k n) (d : Dc bytes pc .l2i 1 pc') (G : ∀ z : Int32, z = x.toInt32 → Go w Q T pc' L (.int z :: st)) : Go w Q T pc L (.long x :: st) := by
  obtain ⟨d1, rfl⟩ := d
  exact go_step K H (fun p e m below c hx hby hA t kk => XS.l2i hA hx rfl (by rw [hby]; exact d1) rfl kk) (G _ rfl)
theorem go_i2b {x : Int32} (K : Cx w R Z n0 own bytes mx rt nm) (H : At1 w T h k n) (d : Dc bytes pc .i2b 1 pc') (G : ∀ z : Int32, z = x.toInt8.toInt32 → Go w Q T pc' L (.int z :: st)) : Go w Q T pc L (.int x :: st) := by
  obtain ⟨d1, rfl⟩ := d
  exact go_step K H (fun p e m below c hx hby hA t kk => XS.i2b hA hx rfl (by rw [hby]; exact d1) rfl kk) (G _ rfl)
theorem go_i2c {x : Int32} (K : Cx w R Z n0 own bytes mx rt nm) (H : At1 w T h k n) (d : Dc bytes pc .i2c 1 pc') (G : ∀ z : Int32, z = x.toUInt32.toUInt16.toUInt32.toInt32 → Go w Q T pc' L (.int z :: st)) : Go w Q T pc L (.int x :: st) := by
  obtain ⟨d1, rfl⟩ := d
  exact go_step K H (fun p e m below c hx hby hA t kk => XS.i2c hA hx rfl (by rw [hby]; exact d1) rfl kk) (G _ rfl)
theorem go_i2s {x : Int32} (K : Cx w R Z n0 own bytes mx rt nm) (H : At1 w T h k n) (d : Dc bytes pc .i2s 1 pc') (G : ∀ z : Int32, z = x.toInt16.toInt32 → Go w Q T pc' L (.int z :: st)) : Go w Q T pc L (.int x :: st) := by
  obtain ⟨d1, rfl⟩ := d
  exact go_step K H (fun p e m below c hx hby hA t kk => XS.i2s hA hx rfl (by rw [hby]; exact d1) rfl kk) (G _ rfl)
theorem go_lcmp {x y : Int64} (K : Cx w R Z n0 own bytes mx rt nm) (H : At1 w T h k n) (d : Dc bytes pc .lcmp 1 pc') (G : ∀ z : Int32, z = lcmpW x y → Go w Q T pc' L (.int z :: st)) : Go w Q T pc L (.long y :: .long x :: st) := by
  obtain ⟨d1, rfl⟩ := d
  exact go_step K H (fun p e m below c hx hby hA t kk => XS.lcmp hA hx rfl (by rw [hby]; exact d1) rfl kk) (G _ rfl)
theorem go_iloadN {j : Fin 4} {v : Int32} (K : Cx w R Z n0 own bytes mx rt nm) (H : At1 w T h k n) (d : Dc bytes pc (.iload_n j) 1 pc') (hl : L[j.val]? = some (.val (.int v))) (G : Go w Q T pc' L (.int v :: st)) : Go w Q T pc L st := by
  obtain ⟨d1, rfl⟩ := d
  exact go_step K H (fun p e m below c hx hby hA t kk => XS.iloadN hA hx rfl (by rw [hby]; exact d1) hl kk) G
theorem go_iload {j : Nat} {v : Int32} (K : Cx w R Z n0 own bytes mx rt nm) (H : At1 w T h k n) (d : Dc bytes pc (.iload j) 2 pc') (hl : L[j]? = some (.val (.int v))) (G : Go w Q T pc' L (.int v :: st)) : Go w Q T pc L st := by
  obtain ⟨d1, rfl⟩ := d
  exact go_step K H (fun p e m below c hx hby hA t kk => XS.iload hA hx rfl (by rw [hby]; exact d1) hl kk) G
theorem go_lloadN {j : Fin 4} {v : Int64} (K : Cx w R Z n0 own bytes mx rt nm) (H : At1 w T h k n) (d : Dc bytes pc (.lload_n j) 1 pc') (hl : L[j.val]? = some (.val (.long v))) (G : Go w Q T pc' L (.long v :: st)) : Go w Q T pc L st := by
  obtain ⟨d1, rfl⟩ := d
  exact go_step K H (fun p e m below c hx hby hA t kk => XS.lloadN hA hx rfl (by rw [hby]; exact d1) hl kk) G
theorem go_lload {j : Nat} {v : Int64} (K : Cx w R Z n0 own bytes mx rt nm) (H : At1 w T h k n) (d : Dc bytes pc (.lload j) 2 pc') (hl : L[j]? = some (.val (.long v))) (G : Go w Q T pc' L (.long v :: st)) : Go w Q T pc L st := by
  obtain ⟨d1, rfl⟩ := d
  exact go_step K H (fun p e m below c hx hby hA t kk => XS.lload hA hx rfl (by rw [hby]; exact d1) hl kk) G
theorem go_aloadN {j : Fin 4} {v : Value} (K : Cx w R Z n0 own bytes mx rt nm) (H : At1 w T h k n) (d : Dc bytes pc (.aload_n j) 1 pc') (hl : L[j.val]? = some (.val v)) (hv : v.isRef = true) (G : Go w Q T pc' L (v :: st)) : Go w Q T pc L st := by
  obtain ⟨d1, rfl⟩ := d
  exact go_step K H (fun p e m below c hx hby hA t kk => XS.aloadN hA hx rfl (by rw [hby]; exact d1) hl hv kk) G
theorem go_aload {j : Nat} {v : Value} (K : Cx w R Z n0 own bytes mx rt nm) (H : At1 w T h k n) (d : Dc bytes pc (.aload j) 2 pc') (hl : L[j]? = some (.val v)) (hv : v.isRef = true) (G : Go w Q T pc' L (v :: st)) : Go w Q T pc L st := by
  obtain ⟨d1, rfl⟩ := d
  exact go_step K H (fun p e m below c hx hby hA t kk => XS.aload hA hx rfl (by rw [hby]; exact d1) hl hv kk) G
theorem go_istoreN {j : Fin 4} {v : Int32} (K : Cx w R Z n0 own bytes mx rt nm) (H : At1 w T h k n) (d : Dc bytes pc (.istore_n j) 1 pc') (hl : storeLocals L j.val (.int v) = some L') (G : Go w Q T pc' L' st) : Go w Q T pc L (.int v :: st) := by
  obtain ⟨d1, rfl⟩ := d
  exact go_step K H (fun p e m below c hx hby hA t kk => XS.istoreN hA hx rfl (by rw [hby]; exact d1) rfl hl kk) G
theorem go_istore {j : Nat} {v : Int32} (K : Cx w R Z n0 own bytes mx rt nm) (H : At1 w T h k n) (d : Dc bytes pc (.istore j) 2 pc') (hl : storeLocals L j (.int v) = some L') (G : Go w Q T pc' L' st) : Go w Q T pc L (.int v :: st) := by
  obtain ⟨d1, rfl⟩ := d
  exact go_step K H (fun p e m below c hx hby hA t kk => XS.istore hA hx rfl (by rw [hby]; exact d1) rfl hl kk) G
theorem go_lstoreN {j : Fin 4} {v : Int64} (K : Cx w R Z n0 own bytes mx rt nm) (H : At1 w T h k n) (d : Dc bytes pc (.lstore_n j) 1 pc') (hl : storeLocals L j.val (.long v) = some L') (G : Go w Q T pc' L' st) : Go w Q T pc L (.long v :: st) := by
  obtain ⟨d1, rfl⟩ := d
  exact go_step K H (fun p e m below c hx hby hA t kk => XS.lstoreN hA hx rfl (by rw [hby]; exact d1) rfl hl kk) G
theorem go_lstore {j : Nat} {v : Int64} (K : Cx w R Z n0 own bytes mx rt nm) (H : At1 w T h k n) (d : Dc bytes pc (.lstore j) 2 pc') (hl : storeLocals L j (.long v) = some L') (G : Go w Q T pc' L' st) : Go w Q T pc L (.long v :: st) := by
  obtain ⟨d1, rfl⟩ := d
  exact go_step K H (fun p e m below c hx hby hA t kk => XS.lstore hA hx rfl (by rw [hby]; exact d1) rfl hl kk) G
theorem go_astoreN {j : Fin 4} {v : Value} (K : Cx w R Z n0 own bytes mx rt nm) (H : At1 w T h k n) (d : Dc bytes pc (.astore_n j) 1 pc') (hv : v.isRef = true) (hl : storeLocals L j.val v = some L') (G : Go w Q T pc' L' st) : Go w Q T pc L (v :: st) := by
  obtain ⟨d1, rfl⟩ := d
  exact go_step K H (fun p e m below c hx hby hA t kk => XS.astoreN hA hx rfl (by rw [hby]; exact d1) rfl hv hl kk) G
theorem go_astore {j : Nat} {v : Value} (K : Cx w R Z n0 own bytes mx rt nm) (H : At1 w T h k n) (d : Dc bytes pc (.astore j) 2 pc') (hv : v.isRef = true) (hl : storeLocals L j v = some L') (G : Go w Q T pc' L' st) : Go w Q T pc L (v :: st) := by
  obtain ⟨d1, rfl⟩ := d
  exact go_step K H (fun p e m below c hx hby hA t kk => XS.astore hA hx rfl (by rw [hby]; exact d1) rfl hv hl kk) G
theorem go_iinc {j : Nat} {cst : Int} {x z : Int32} (K : Cx w R Z n0 own bytes mx rt nm) (H : At1 w T h k n) (d : Dc bytes pc (.iinc j cst) 3 pc') (hl : L[j]? = some (.val (.int x))) (hz : z = x + Int32.ofInt cst) (hl' : storeLocals L j (.int z) = some L') (G : Go w Q T pc' L' st) : Go w Q T pc L st := by
  obtain ⟨d1, rfl⟩ := d
  exact go_step K H (fun p e m below c hx hby hA t kk => XS.iinc hA hx rfl (by rw [hby]; exact d1) hl (by rw [← hz]; exact hl') kk) G
theorem go_iconst {i : Int} (z : Int32) (K : Cx w R Z n0 own bytes mx rt nm) (H : At1 w T h k n) (d : Dc bytes pc (.iconst i) 1 pc') (hz : Int32.ofInt i = z) (G : Go w Q T pc' L (.int z :: st)) : Go w Q T pc L st := by
  obtain ⟨d1, rfl⟩ := d
  exact go_step K H (fun p e m below c hx hby hA t kk => XS.iconst hA hx rfl (by rw [hby]; exact d1) (by rw [hz]; exact kk)) G
theorem go_bipush {i : Int} (z : Int32) (K : Cx w R Z n0 own bytes mx rt nm) (H : At1 w T h k n) (d : Dc bytes pc (.bipush i) 2 pc') (hz : (Int8.ofInt i).toInt32 = z) (G : Go w Q T pc' L (.int z :: st)) : Go w Q T pc L st := by
  obtain ⟨d1, rfl⟩ := d
  exact go_step K H (fun p e m below c hx hby hA t kk => XS.bipush hA hx rfl (by rw [hby]; exact d1) (by rw [hz]; exact kk)) G
theorem go_sipush {i : Int} (z : Int32) (K : Cx w R Z n0 own bytes mx rt nm) (H : At1 w T h k n) (d : Dc bytes pc (.sipush i) 3 pc') (hz : (Int16.ofInt i).toInt32 = z) (G : Go w Q T pc' L (.int z :: st)) : Go w Q T pc L st := by
  obtain ⟨d1, rfl⟩ := d
  exact go_step K H (fun p e m below c hx hby hA t kk => XS.sipush hA hx rfl (by rw [hby]; exact d1) (by rw [hz]; exact kk)) G
theorem go_lconst {i : Fin 2} (z : Int64) (K : Cx w R Z n0 own bytes mx rt nm) (H : At1 w T h k n) (d : Dc bytes pc (.lconst i) 1 pc') (hz : Int64.ofNat i = z) (G : Go w Q T pc' L (.long z :: st)) : Go w Q T pc L st := by
  obtain ⟨d1, rfl⟩ := d
  exact go_step K H (fun p e m below c hx hby hA t kk => XS.lconst hA hx rfl (by rw [hby]; exact d1) (by rw [hz]; exact kk)) G
theorem go_null  (K : Cx w R Z n0 own bytes mx rt nm) (H : At1 w T h k n) (d : Dc bytes pc .aconst_null 1 pc') (G : Go w Q T pc' L (.null :: st)) : Go w Q T pc L st := by
  obtain ⟨d1, rfl⟩ := d
  exact go_step K H (fun p e m below c hx hby hA t kk => XS.aconstNull hA hx rfl (by rw [hby]; exact d1) kk) G
theorem go_dup {x : Value} (K : Cx w R Z n0 own bytes mx rt nm) (H : At1 w T h k n) (d : Dc bytes pc .dup 1 pc') (hc : x.category = 1) (G : Go w Q T pc' L (x :: x :: st)) : Go w Q T pc L (x :: st) := by
  obtain ⟨d1, rfl⟩ := d
  exact go_step K H (fun p e m below c hx hby hA t kk => XS.dup hA hx rfl (by rw [hby]; exact d1) rfl hc kk) G
theorem go_pop {x : Value} (K : Cx w R Z n0 own bytes mx rt nm) (H : At1 w T h k n) (d : Dc bytes pc .pop 1 pc') (hc : x.category = 1) (G : Go w Q T pc' L st) : Go w Q T pc L (x :: st) := by
  obtain ⟨d1, rfl⟩ := d
  exact go_step K H (fun p e m below c hx hby hA t kk => XS.pop hA hx rfl (by rw [hby]; exact d1) rfl hc kk) G
theorem go_dupX1 {x y : Value} (K : Cx w R Z n0 own bytes mx rt nm) (H : At1 w T h k n) (d : Dc bytes pc .dup_x1 1 pc') (hc : x.category = 1) (hc' : y.category = 1) (G : Go w Q T pc' L (x :: y :: x :: st)) : Go w Q T pc L (x :: y :: st) := by
  obtain ⟨d1, rfl⟩ := d
  exact go_step K H (fun p e m below c hx hby hA t kk => XS.dupX1 hA hx rfl (by rw [hby]; exact d1) rfl hc hc' kk) G
theorem go_dup2 {x y : Value} (K : Cx w R Z n0 own bytes mx rt nm) (H : At1 w T h k n) (d : Dc bytes pc .dup2 1 pc') (hc : x.category = 1) (hc' : y.category = 1) (G : Go w Q T pc' L (x :: y :: x :: y :: st)) : Go w Q T pc L (x :: y :: st) := by
  obtain ⟨d1, rfl⟩ := d
  exact go_step K H (fun p e m below c hx hby hA t kk => Jvm.Free.XT.dup2 hA hx rfl (by rw [hby]; exact d1) rfl hc hc' kk) G
theorem go_dup2L {x : Int64} (K : Cx w R Z n0 own bytes mx rt nm) (H : At1 w T h k n) (d : Dc bytes pc .dup2 1 pc') (G : Go w Q T pc' L (.long x :: .long x :: st)) : Go w Q T pc L (.long x :: st) := by
  obtain ⟨d1, rfl⟩ := d
  exact go_step K H (fun p e m below c hx hby hA t kk => Jvm.Free.XT.dup2L hA hx rfl (by rw [hby]; exact d1) rfl kk) G
def Jp (bytes : ByteArray) (pc : Nat) (i : Int → Instr) (yes no : Nat) : Prop := ∃ o : Int, decode bytes pc = .ok (i o, 3) ∧ 0 ≤ (pc : Int) + o ∧ ((pc : Int) + o).toNat = yes ∧ pc + 3 = no
theorem go_goto (K : Cx w R Z n0 own bytes mx rt nm) (H : At1 w T h k n) {no : Nat} (d : Jp bytes pc .goto pc' no) (G : Go w Q T pc' L st) : Go w Q T pc L st := by
  obtain ⟨o, d1, d2, d3, d4⟩ := d
  exact go_step K H (fun p e m below c hx hby hA t kk => XS.goto hA hx rfl rfl (by rw [hby]; exact d1) d2 d3 kk) G
theorem go_icmp_lt (K : Cx w R Z n0 own bytes mx rt nm) (H : At1 w T h k n) {x y : Int32} {yes no : Nat} (d : Jp bytes pc (.if_icmp .lt) yes no) (G1 : x < y → Go w Q T yes L st) (G2 : ¬ x < y → Go w Q T no L st) : Go w Q T pc L (.int y :: .int x :: st) := by
  obtain ⟨o, d1, d2, d3, rfl⟩ := d
  by_cases q : x < y
  · exact go_step K H (fun p e m below c hx hby hA t kk => XS.icmpYes hA hx rfl rfl (by rw [hby]; exact d1) rfl (tlt q).1 d2 d3 kk) (G1 q)
  · exact go_step K H (fun p e m below c hx hby hA t kk => XS.icmpNo hA hx rfl (by rw [hby]; exact d1) rfl (flt q).1 kk) (G2 q)
theorem go_if_lt (K : Cx w R Z n0 own bytes mx rt nm) (H : At1 w T h k n) {x : Int32} {yes no : Nat} (d : Jp bytes pc (.ifCond .lt) yes no) (G1 : x < (0 : Int32) → Go w Q T yes L st) (G2 : ¬ x < (0 : Int32) → Go w Q T no L st) : Go w Q T pc L (.int x :: st) := by
  obtain ⟨o, d1, d2, d3, rfl⟩ := d
  by_cases q : x < (0 : Int32)
  · exact go_step K H (fun p e m below c hx hby hA t kk => XS.ifYes hA hx rfl rfl (by rw [hby]; exact d1) rfl ((if0 _ _).trans (tlt q).1) d2 d3 kk) (G1 q)
  · exact go_step K H (fun p e m below c hx hby hA t kk => XS.ifNo hA hx rfl (by rw [hby]; exact d1) rfl ((if0 _ _).trans (flt q).1) kk) (G2 q)
theorem go_icmp_ge (K : Cx w R Z n0 own bytes mx rt nm) (H : At1 w T h k n) {x y : Int32} {yes no : Nat} (d : Jp bytes pc (.if_icmp .ge) yes no) (G1 : ¬ x < y → Go w Q T yes L st) (G2 : x < y → Go w Q T no L st) : Go w Q T pc L (.int y :: .int x :: st) := by
  obtain ⟨o, d1, d2, d3, rfl⟩ := d
  by_cases q : ¬ x < y
  · exact go_step K H (fun p e m below c hx hby hA t kk => XS.icmpYes hA hx rfl rfl (by rw [hby]; exact d1) rfl (flt q).2.1 d2 d3 kk) (G1 q)
  · exact go_step K H (fun p e m below c hx hby hA t kk => XS.icmpNo hA hx rfl (by rw [hby]; exact d1) rfl (tlt (Decidable.not_not.mp q)).2.1 kk) (G2 (Decidable.not_not.mp q))
theorem go_if_ge (K : Cx w R Z n0 own bytes mx rt nm) (H : At1 w T h k n) {x : Int32} {yes no : Nat} (d : Jp bytes pc (.ifCond .ge) yes no) (G1 : ¬ x < (0 : Int32) → Go w Q T yes L st) (G2 : x < (0 : Int32) → Go w Q T no L st) : Go w Q T pc L (.int x :: st) := by
  obtain ⟨o, d1, d2, d3, rfl⟩ := d
  by_cases q : ¬ x < (0 : Int32)
  · exact go_step K H (fun p e m below c hx hby hA t kk => XS.ifYes hA hx rfl rfl (by rw [hby]; exact d1) rfl ((if0 _ _).trans (flt q).2.1) d2 d3 kk) (G1 q)
  · exact go_step K H (fun p e m below c hx hby hA t kk => XS.ifNo hA hx rfl (by rw [hby]; exact d1) rfl ((if0 _ _).trans (tlt (Decidable.not_not.mp q)).2.1) kk) (G2 (Decidable.not_not.mp q))
theorem go_icmp_gt (K : Cx w R Z n0 own bytes mx rt nm) (H : At1 w T h k n) {x y : Int32} {yes no : Nat} (d : Jp bytes pc (.if_icmp .gt) yes no) (G1 : y < x → Go w Q T yes L st) (G2 : ¬ y < x → Go w Q T no L st) : Go w Q T pc L (.int y :: .int x :: st) := by
  obtain ⟨o, d1, d2, d3, rfl⟩ := d
  by_cases q : y < x
  · exact go_step K H (fun p e m below c hx hby hA t kk => XS.icmpYes hA hx rfl rfl (by rw [hby]; exact d1) rfl (tlt q).2.2.1 d2 d3 kk) (G1 q)
  · exact go_step K H (fun p e m below c hx hby hA t kk => XS.icmpNo hA hx rfl (by rw [hby]; exact d1) rfl (flt q).2.2.1 kk) (G2 q)
theorem go_if_gt (K : Cx w R Z n0 own bytes mx rt nm) (H : At1 w T h k n) {x : Int32} {yes no : Nat} (d : Jp bytes pc (.ifCond .gt) yes no) (G1 : (0 : Int32) < x → Go w Q T yes L st) (G2 : ¬ (0 : Int32) < x → Go w Q T no L st) : Go w Q T pc L (.int x :: st) := by
  obtain ⟨o, d1, d2, d3, rfl⟩ := d
  by_cases q : (0 : Int32) < x
  · exact go_step K H (fun p e m below c hx hby hA t kk => XS.ifYes hA hx rfl rfl (by rw [hby]; exact d1) rfl ((if0 _ _).trans (tlt q).2.2.1) d2 d3 kk) (G1 q)
  · exact go_step K H (fun p e m below c hx hby hA t kk => XS.ifNo hA hx rfl (by rw [hby]; exact d1) rfl ((if0 _ _).trans (flt q).2.2.1) kk) (G2 q)
theorem go_icmp_le (K : Cx w R Z n0 own bytes mx rt nm) (H : At1 w T h k n) {x y : Int32} {yes no : Nat} (d : Jp bytes pc (.if_icmp .le) yes no) (G1 : ¬ y < x → Go w Q T yes L st) (G2 : y < x → Go w Q T no L st) : Go w Q T pc L (.int y :: .int x :: st) := by
  obtain ⟨o, d1, d2, d3, rfl⟩ := d
  by_cases q : ¬ y < x
  · exact go_step K H (fun p e m below c hx hby hA t kk => XS.icmpYes hA hx rfl rfl (by rw [hby]; exact d1) rfl (flt q).2.2.2 d2 d3 kk) (G1 q)
  · exact go_step K H (fun p e m below c hx hby hA t kk => XS.icmpNo hA hx rfl (by rw [hby]; exact d1) rfl (tlt (Decidable.not_not.mp q)).2.2.2 kk) (G2 (Decidable.not_not.mp q))
theorem go_if_le (K : Cx w R Z n0 own bytes mx rt nm) (H : At1 w T h k n) {x : Int32} {yes no : Nat} (d : Jp bytes pc (.ifCond .le) yes no) (G1 : ¬ (0 : Int32) < x → Go w Q T yes L st) (G2 : (0 : Int32) < x → Go w Q T no L st) : Go w Q T pc L (.int x :: st) := by
  obtain ⟨o, d1, d2, d3, rfl⟩ := d
  by_cases q : ¬ (0 : Int32) < x
  · exact go_step K H (fun p e m below c hx hby hA t kk => XS.ifYes hA hx rfl rfl (by rw [hby]; exact d1) rfl ((if0 _ _).trans (flt q).2.2.2) d2 d3 kk) (G1 q)
  · exact go_step K H (fun p e m below c hx hby hA t kk => XS.ifNo hA hx rfl (by rw [hby]; exact d1) rfl ((if0 _ _).trans (tlt (Decidable.not_not.mp q)).2.2.2) kk) (G2 (Decidable.not_not.mp q))
theorem go_icmp_eq (K : Cx w R Z n0 own bytes mx rt nm) (H : At1 w T h k n) {x y : Int32} {yes no : Nat} (d : Jp bytes pc (.if_icmp .eq) yes no) (G1 : x = y → Go w Q T yes L st) (G2 : ¬ x = y → Go w Q T no L st) : Go w Q T pc L (.int y :: .int x :: st) := by
  obtain ⟨o, d1, d2, d3, rfl⟩ := d
  by_cases q : x = y
  · exact go_step K H (fun p e m below c hx hby hA t kk => XS.icmpYes hA hx rfl rfl (by rw [hby]; exact d1) rfl (teq q).1 d2 d3 kk) (G1 q)
  · exact go_step K H (fun p e m below c hx hby hA t kk => XS.icmpNo hA hx rfl (by rw [hby]; exact d1) rfl (feq q).1 kk) (G2 q)
theorem go_if_eq (K : Cx w R Z n0 own bytes mx rt nm) (H : At1 w T h k n) {x : Int32} {yes no : Nat} (d : Jp bytes pc (.ifCond .eq) yes no) (G1 : x = (0 : Int32) → Go w Q T yes L st) (G2 : ¬ x = (0 : Int32) → Go w Q T no L st) : Go w Q T pc L (.int x :: st) := by
  obtain ⟨o, d1, d2, d3, rfl⟩ := d
  by_cases q : x = (0 : Int32)
  · exact go_step K H (fun p e m below c hx hby hA t kk => XS.ifYes hA hx rfl rfl (by rw [hby]; exact d1) rfl ((if0 _ _).trans (teq q).1) d2 d3 kk) (G1 q)
  · exact go_step K H (fun p e m below c hx hby hA t kk => XS.ifNo hA hx rfl (by rw [hby]; exact d1) rfl ((if0 _ _).trans (feq q).1) kk) (G2 q)
theorem go_icmp_ne (K : Cx w R Z n0 own bytes mx rt nm) (H : At1 w T h k n) {x y : Int32} {yes no : Nat} (d : Jp bytes pc (.if_icmp .ne) yes no) (G1 : ¬ x = y → Go w Q T yes L st) (G2 : x = y → Go w Q T no L st) : Go w Q T pc L (.int y :: .int x :: st) := by
  obtain ⟨o, d1, d2, d3, rfl⟩ := d
  by_cases q : ¬ x = y
  · exact go_step K H (fun p e m below c hx hby hA t kk => XS.icmpYes hA hx rfl rfl (by rw [hby]; exact d1) rfl (feq q).2 d2 d3 kk) (G1 q)
  · exact go_step K H (fun p e m below c hx hby hA t kk => XS.icmpNo hA hx rfl (by rw [hby]; exact d1) rfl (teq (Decidable.not_not.mp q)).2 kk) (G2 (Decidable.not_not.mp q))
theorem go_if_ne (K : Cx w R Z n0 own bytes mx rt nm) (H : At1 w T h k n) {x : Int32} {yes no : Nat} (d : Jp bytes pc (.ifCond .ne) yes no) (G1 : ¬ x = (0 : Int32) → Go w Q T yes L st) (G2 : x = (0 : Int32) → Go w Q T no L st) : Go w Q T pc L (.int x :: st) := by
  obtain ⟨o, d1, d2, d3, rfl⟩ := d
  by_cases q : ¬ x = (0 : Int32)
  · exact go_step K H (fun p e m below c hx hby hA t kk => XS.ifYes hA hx rfl rfl (by rw [hby]; exact d1) rfl ((if0 _ _).trans (feq q).2) d2 d3 kk) (G1 q)
  · exact go_step K H (fun p e m below c hx hby hA t kk => XS.ifNo hA hx rfl (by rw [hby]; exact d1) rfl ((if0 _ _).trans (teq (Decidable.not_not.mp q)).2) kk) (G2 (Decidable.not_not.mp q))
theorem go_ifnull_yes (K : Cx w R Z n0 own bytes mx rt nm) (H : At1 w T h k n) {yes no : Nat} (d : Jp bytes pc .ifnull yes no) (G : Go w Q T yes L st) : Go w Q T pc L (.null :: st) := by
  obtain ⟨o, d1, d2, d3, rfl⟩ := d
  exact go_step K H (fun p e m below c hx hby hA t kk => XS.ifnullYes hA hx rfl rfl (by rw [hby]; exact d1) rfl d2 d3 kk) G
theorem go_ifnull_no (K : Cx w R Z n0 own bytes mx rt nm) (H : At1 w T h k n) {a : Addr} {yes no : Nat} (d : Jp bytes pc .ifnull yes no) (G : Go w Q T no L st) : Go w Q T pc L (.ref a :: st) := by
  obtain ⟨o, d1, d2, d3, rfl⟩ := d
  exact go_step K H (fun p e m below c hx hby hA t kk => XS.ifnullNo hA hx rfl (by rw [hby]; exact d1) rfl kk) G
theorem go_ifnonnull_yes (K : Cx w R Z n0 own bytes mx rt nm) (H : At1 w T h k n) {a : Addr} {yes no : Nat} (d : Jp bytes pc .ifnonnull yes no) (G : Go w Q T yes L st) : Go w Q T pc L (.ref a :: st) := by
  obtain ⟨o, d1, d2, d3, rfl⟩ := d
  exact go_step K H (fun p e m below c hx hby hA t kk => XS.ifnonnullYes hA hx rfl rfl (by rw [hby]; exact d1) rfl d2 d3 kk) G
theorem go_ifnonnull_no (K : Cx w R Z n0 own bytes mx rt nm) (H : At1 w T h k n) {yes no : Nat} (d : Jp bytes pc .ifnonnull yes no) (G : Go w Q T no L st) : Go w Q T pc L (.null :: st) := by
  obtain ⟨o, d1, d2, d3, rfl⟩ := d
  exact go_step K H (fun p e m below c hx hby hA t kk => XS.ifnonnullNo hA hx rfl (by rw [hby]; exact d1) rfl kk) G
theorem go_acmp_eq (K : Cx w R Z n0 own bytes mx rt nm) (H : At1 w T h k n) {x y : Value} (h1 : x.isRef = true) (h2 : y.isRef = true) {yes no : Nat} (d : Jp bytes pc (.if_acmp .eq) yes no) (G1 : x = y → Go w Q T yes L st) (G2 : ¬ x = y → Go w Q T no L st) : Go w Q T pc L (y :: x :: st) := by
  obtain ⟨p, l, e, R', s, m, args, below, meth, c, Z', k0⟩ := w
  obtain ⟨hx, hby, -⟩ := K
  obtain ⟨locs, X, -⟩ := H
  obtain ⟨o, d1, d2, d3, rfl⟩ := d
  by_cases q : x = y
  · obtain ⟨s₂, o2, g1, g2⟩ := G1 q
    exact ⟨s₂, o2, Jvm.RoadKit.acmp X hx rfl h1 h2 (pc' := yes) (same := true) rfl (by rw [hby]; exact d1) rfl (decide_eq_true q) d2 (by simp [acV, d3]) g1, g2⟩
  · obtain ⟨s₂, o2, g1, g2⟩ := G2 q
    exact ⟨s₂, o2, Jvm.RoadKit.acmp X hx rfl h1 h2 (pc' := pc + 3) (same := false) rfl (by rw [hby]; exact d1) rfl (decide_eq_false q) d2 (by simp [acV]) g1, g2⟩
theorem go_acmp_ne (K : Cx w R Z n0 own bytes mx rt nm) (H : At1 w T h k n) {x y : Value} (h1 : x.isRef = true) (h2 : y.isRef = true) {yes no : Nat} (d : Jp bytes pc (.if_acmp .ne) yes no) (G1 : ¬ x = y → Go w Q T yes L st) (G2 : x = y → Go w Q T no L st) : Go w Q T pc L (y :: x :: st) := by
  obtain ⟨p, l, e, R', s, m, args, below, meth, c, Z', k0⟩ := w
  obtain ⟨hx, hby, -⟩ := K
  obtain ⟨locs, X, -⟩ := H
  obtain ⟨o, d1, d2, d3, rfl⟩ := d
  by_cases q : x = y
  · obtain ⟨s₂, o2, g1, g2⟩ := G2 q
    exact ⟨s₂, o2, Jvm.RoadKit.acmp X hx rfl h1 h2 (pc' := pc + 3) (same := true) rfl (by rw [hby]; exact d1) rfl (decide_eq_true q) d2 (by simp [acV]) g1, g2⟩
  · obtain ⟨s₂, o2, g1, g2⟩ := G1 q
    exact ⟨s₂, o2, Jvm.RoadKit.acmp X hx rfl h1 h2 (pc' := yes) (same := false) rfl (by rw [hby]; exact d1) rfl (decide_eq_false q) d2 (by simp [acV, d3]) g1, g2⟩
/-- a step that hands on to a new state of the walk -/
theorem go_move {T' : State} (K : Cx w R Z n0 own bytes mx rt nm)
    (hs : ∀ (p : Program) (e : Env) (m : MethodId) (below : List Frame), (∃ l s args meth c, w = ⟨p, l, e, R, s, m, args, below, meth, c, Z, n0⟩) → ∀ t, Steps p.tables e below (T'.setTop (mkF m pc' L' st')) t → Steps p.tables e below (T.setTop (mkF m pc L st)) t)
    (G : Go w Q T' pc' L' st') : Go w Q T pc L st := by
  obtain ⟨p, l, e, R', s, m, args, below, meth, c, Z', k0⟩ := w
  obtain ⟨-, -, -, -, -, -, -, -, rfl, rfl, rfl, -⟩ := K
  obtain ⟨s₂, o, h1, h2⟩ := G
  exact ⟨s₂, o, hs p e m below ⟨l, s, args, meth, c, rfl⟩ _ h1, h2⟩
/-- one law a body's end -/
theorem go_leave (K : Cx w R Z n0 own bytes mx rt nm) (H : At1 w T h k n) {v : Option Value} (hv : rt = none → v = none) (hk : k ≤ R.cells) (hn : n ≤ R.slots)
    (hs : ∀ (p : Program) (l : Launch) (e : Env) (s : State) (m : MethodId) (args : Array Value) (below : List Frame) (meth : Method) (c : Code) (locs : List Loc), Stand p l e R s m args below meth c T locs k n → p.tables.exec = Jvm.exec → c.code = bytes → meth.sig.returnType = rt → ∀ fs, (∀ (f : JFrame) (acts : List Action), f.method = m → f.locked = none → f.entered = [] → (doReturn e (T.setTop f) acts v).1 = T.setFrames fs) → Steps p.tables e below (T.setTop (mkF m pc L st)) (T.setFrames fs))
    (hq : Q v h) : Go w Q T pc L st := by
  obtain ⟨p, l, e, R', s, m, args, below, meth, c, Z', k0⟩ := w
  obtain ⟨hx, hby, hml, hown, hZ, hret, hnm, hlk, rfl, rfl, rfl, h00⟩ := K
  obtain ⟨locs, X, eT, N⟩ := H
  obtain ⟨fs, hr, hrun, hended, hW, hsame⟩ := X.leave (v := v) (fun q => hv (hret ▸ q)) hlk
  exact ⟨_, _, hs p l e s m args below meth c locs X hx hby hret fs hr, hrun, hended, v, locs, rfl, ⟨by show Q v T.heap; rw [eT]; exact hq, N⟩, ⟨v, rfl⟩, hW, hsame.mono hk hn⟩
theorem go_ret (K : Cx w R Z n0 own bytes mx rt nm) (H : At1 w T h k n) {P : Heap → Prop} (d : Dc bytes pc .return_ 1 pc') (hr : rt = none) (hk : k ≤ R.cells) (hn : n ≤ R.slots) (hq : P h) : Go w (RV P) T pc L [] :=
  go_leave K H (fun _ => rfl) hk hn (fun p l e s m args below meth c locs X hx hby hret fs hl => X.returnOut hx (hret.trans hr) (dcb hby d) hl) ⟨rfl, hq⟩
theorem go_retV (K : Cx w R Z n0 own bytes mx rt nm) (H : At1 w T h k n) {v : Value} {t : FieldType} {i : Instr} (d : Dc bytes pc i 1 pc') (hr : rt = some t) (hnar : narrow t v = v)
    (hi : (i = .ireturn ∧ (t = .int ∨ t = .boolean ∨ t = .byte ∨ t = .char ∨ t = .short) ∧ ∃ z, v = .int z) ∨ (i = .lreturn ∧ t = .long ∧ ∃ z, v = .long z) ∨ (i = .dreturn ∧ t = .double ∧ ∃ z, v = .double z) ∨ (i = .freturn ∧ t = .float ∧ ∃ z, v = .float z) ∨ (i = .areturn ∧ t.isReference = true ∧ v.isRef = true))
    (hk : k ≤ R.cells) (hn : n ≤ R.slots) (hq : Q (some v) h) : Go w Q T pc L (v :: st) :=
  go_leave K H (fun q => by rw [hr] at q; cases q) hk hn (fun p l e s m args below meth c locs X hx hby hret fs hl => retOut X hx (hret.trans hr) hnar hi (dcb hby d) hl) hq
theorem go_iret (K : Cx w R Z n0 own bytes mx rt nm) (H : At1 w T h k n) {P : Int32 → Heap → Prop} {z : Int32} (d : Dc bytes pc .ireturn 1 pc') (hr : rt = some .int) (hk : k ≤ R.cells) (hn : n ≤ R.slots) (hq : P z h) : Go w (RI P) T pc L (.int z :: st) :=
  go_retV K H d hr rfl (Or.inl ⟨rfl, Or.inl rfl, z, rfl⟩) hk hn ⟨z, rfl, hq⟩
theorem go_zret (K : Cx w R Z n0 own bytes mx rt nm) (H : At1 w T h k n) {P : Int32 → Heap → Prop} {z : Int32} (d : Dc bytes pc .ireturn 1 pc') (hr : rt = some .boolean) (hz : nar .boolean z = z) (hk : k ≤ R.cells) (hn : n ≤ R.slots) (hq : P z h) : Go w (RI P) T pc L (.int z :: st) :=
  go_retV K H d hr (by show Value.int (nar .boolean z) = _; rw [hz]) (Or.inl ⟨rfl, Or.inr (Or.inl rfl), z, rfl⟩) hk hn ⟨z, rfl, hq⟩
theorem go_lret (K : Cx w R Z n0 own bytes mx rt nm) (H : At1 w T h k n) {P : Int64 → Heap → Prop} {z : Int64} (d : Dc bytes pc .lreturn 1 pc') (hr : rt = some .long) (hk : k ≤ R.cells) (hn : n ≤ R.slots) (hq : P z h) : Go w (RL P) T pc L (.long z :: st) :=
  go_retV K H d hr rfl (Or.inr (Or.inl ⟨rfl, rfl, z, rfl⟩)) hk hn ⟨z, rfl, hq⟩
theorem go_aret (K : Cx w R Z n0 own bytes mx rt nm) (H : At1 w T h k n) {P : Value → Heap → Prop} {z : Value} {t : FieldType} (d : Dc bytes pc .areturn 1 pc') (hr : rt = some t) (ht : t.isReference = true) (hz : z.isRef = true) (hk : k ≤ R.cells) (hn : n ≤ R.slots) (hq : P z h) : Go w (RR P) T pc L (z :: st) :=
  go_retV K H d hr (by rcases ref_cases hz with rfl | ⟨a, rfl⟩ <;> (cases t <;> first | rfl | (simp [FieldType.isReference] at ht))) (Or.inr (Or.inr (Or.inr (Or.inr ⟨rfl, ht, hz⟩)))) hk hn ⟨z, rfl, hz, hq⟩
theorem go_ldcI {a0 : Array Value} {idx : Nat} (z : Int32) (K : Cx w R Z n0 own bytes mx rt nm) (H : At1 w T h k n) (d : Dc bytes pc (.ldc idx) 2 pc') (w1 : (Cond.constant own idx z).before a0 Z = true) (G : Go w Q T pc' L (.int z :: st)) : Go w Q T pc L st := by
  obtain ⟨p, l, e, R', s, m, args, below, meth, c, Z', k0⟩ := w
  obtain ⟨hx, hby, hml, hown, hZ, -⟩ := K
  obtain ⟨locs, X, -⟩ := H
  obtain ⟨s₂, o, g1, g2⟩ := G
  obtain ⟨d1, rfl⟩ := d
  exact ⟨s₂, o, X.ldcInt hx hown (mvT hZ w1) rfl (by rw [hby]; exact d1) _ g1, g2⟩
theorem go_ldcF {a0 : Array Value} {idx : Nat} (z : UInt32) (K : Cx w R Z n0 own bytes mx rt nm) (H : At1 w T h k n) (d : Dc bytes pc (.ldc idx) 2 pc') (w1 : (Cond.constantFloat own idx z).before a0 Z = true) (G : Go w Q T pc' L (.float z :: st)) : Go w Q T pc L st := by
  obtain ⟨p, l, e, R', s, m, args, below, meth, c, Z', k0⟩ := w
  obtain ⟨hx, hby, hml, hown, hZ, -⟩ := K
  obtain ⟨locs, X, -⟩ := H
  obtain ⟨s₂, o, g1, g2⟩ := G
  obtain ⟨d1, rfl⟩ := d
  exact ⟨s₂, o, X.ldcFloatC hx hown (mvT hZ w1) rfl (by rw [hby]; exact d1) _ g1, g2⟩
theorem go_ldcwI {a0 : Array Value} {idx : Nat} (z : Int32) (K : Cx w R Z n0 own bytes mx rt nm) (H : At1 w T h k n) (d : Dc bytes pc (.ldc_w idx) 3 pc') (w1 : (Cond.constant own idx z).before a0 Z = true) (G : Go w Q T pc' L (.int z :: st)) : Go w Q T pc L st := by
  obtain ⟨p, l, e, R', s, m, args, below, meth, c, Z', k0⟩ := w
  obtain ⟨hx, hby, hml, hown, hZ, -⟩ := K
  obtain ⟨locs, X, -⟩ := H
  obtain ⟨s₂, o, g1, g2⟩ := G
  obtain ⟨d1, rfl⟩ := d
  exact ⟨s₂, o, X.ldcwInt hx hown (mvT hZ w1) rfl (by rw [hby]; exact d1) _ g1, g2⟩
theorem go_ldcL {a0 : Array Value} {idx : Nat} (z : Int64) (K : Cx w R Z n0 own bytes mx rt nm) (H : At1 w T h k n) (d : Dc bytes pc (.ldc2_w idx) 3 pc') (w1 : (Cond.constantLong own idx z).before a0 Z = true) (G : Go w Q T pc' L (.long z :: st)) : Go w Q T pc L st := by
  obtain ⟨p, l, e, R', s, m, args, below, meth, c, Z', k0⟩ := w
  obtain ⟨hx, hby, hml, hown, hZ, -⟩ := K
  obtain ⟨locs, X, -⟩ := H
  obtain ⟨s₂, o, g1, g2⟩ := G
  obtain ⟨d1, rfl⟩ := d
  exact ⟨s₂, o, X.ldc2Long hx hown (mvT hZ w1) rfl (by rw [hby]; exact d1) _ g1, g2⟩
theorem go_getfield {a0 : Array Value} {R0 O f ds host : String} {idx : Nat} {a : Addr} {v : Value} (K : Cx w R Z n0 own bytes mx rt nm) (H : At1 w T h k n) (d : Dc bytes pc (.getfield idx) 3 pc') (w1 : (Cond.fieldLink own idx R0 f ds).before a0 Z = true ∨ (Cond.fieldLinkNest own idx R0 f ds host).before a0 Z = true) (via : Via Z R0 O f ds) (F : Fld Z h a O f ds v)
    (G : ∀ T', At1 w T' h k n → Go w Q T' pc' L (v :: st)) : Go w Q T pc L (.ref a :: st) := by
  obtain ⟨p, l, e, R', s, m, args, below, meth, c, Z', k0⟩ := w
  obtain ⟨hx, hby, hml, hown, hZ, -⟩ := K
  obtain ⟨locs, X, eT, N⟩ := H
  obtain ⟨d1, rfl⟩ := d
  obtain ⟨T', X', e', stp⟩ := getF X hx hZ hown w1 via eT F (g := mkF m pc L (.ref a :: st)) rfl rfl (by rw [hby]; exact d1)
  obtain ⟨s₂, o, g1, g2⟩ := G T' ⟨locs, X', e', N⟩
  exact ⟨s₂, o, stp _ g1, g2⟩
theorem go_getstatic {a0 : Array Value} {R0 O f ds host : String} {idx : Nat} {v : Value} (K : Cx w R Z n0 own bytes mx rt nm) (H : At1 w T h k n) (d : Dc bytes pc (.getstatic idx) 3 pc') (w1 : (Cond.fieldLink own idx R0 f ds).before a0 Z = true ∨ (Cond.fieldLinkNest own idx R0 f ds host).before a0 Z = true) (via : Via Z R0 O f ds) (F : Sta Z h O f ds v)
    (G : ∀ T', At1 w T' h k n → Go w Q T' pc' L (v :: st)) : Go w Q T pc L st := by
  obtain ⟨p, l, e, R', s, m, args, below, meth, c, Z', k0⟩ := w
  obtain ⟨hx, hby, hml, hown, hZ, -⟩ := K
  obtain ⟨locs, X, eT, N⟩ := H
  obtain ⟨d1, rfl⟩ := d
  obtain ⟨T', X', e', stp⟩ := getS2 X hx hZ hown w1 via eT F (g := mkF m pc L st) rfl (by rw [hby]; exact d1)
  obtain ⟨s₂, o, g1, g2⟩ := G T' ⟨locs, X', e', N⟩
  exact ⟨s₂, o, stp _ g1, g2⟩
theorem go_putfield {a0 : Array Value} {R0 O f ds host C : String} {idx kk : Nat} {a : Addr} {v old : Value} {ty : FieldType} (K : Cx w R Z n0 own bytes mx rt nm) (H : At1 w T h k n) (d : Dc bytes pc (.putfield idx) 3 pc') (w1 : (Cond.fieldLink own idx R0 f ds).before a0 Z = true ∨ (Cond.fieldLinkNest own idx R0 f ds host).before a0 Z = true) (via : Via Z R0 O f ds)
    (F : Fld Z h a O f ds old) (E : Exa Z h a C) (Ly : (Cond.lays C O f ds).before a0 Z = true ∨ ((Cond.laysFinal C O f ds).before a0 Z = true ∧ own = O ∧ nm = "<init>")) (wi : (Cond.instantiable C kk).before a0 Z = true)
    (hty : parseFieldDescriptor ds = some ty) (hn : narrow ty v = v) (hf : fits ty v = true) (ha : n0 ≤ a)
    (G : ∀ T' h', At1 w T' h' k n → Wr h h' a (Jvm.RoadKit.slotOf Z O f ds) v → Go w Q T' pc' L st) : Go w Q T pc L (v :: .ref a :: st) := by
  obtain ⟨p, l, e, R', s, m, args, below, meth, c, Z', k0⟩ := w
  obtain ⟨hx, hby, hml, hown, hZ, hret, hnm, hlk, rfl, rfl, rfl, h00⟩ := K
  obtain ⟨locs, X, eT, N⟩ := H
  obtain ⟨d1, rfl⟩ := d
  obtain ⟨T', h', X', e', W, stp⟩ := putF X hx hZ hown w1 via eT F E (Ly.imp id fun q => ⟨q.1, q.2.1, hnm.trans q.2.2⟩) wi hty hn hf (g := mkF m pc L (v :: .ref a :: st)) rfl rfl (by rw [hby]; exact d1)
  obtain ⟨s₂, o, g1, g2⟩ := G T' h' ⟨_, X', e', Fr.snoc X' N ha⟩ W
  exact ⟨s₂, o, stp _ g1, g2⟩
theorem go_putfieldN {a0 : Array Value} {R0 O f ds C : String} {idx kk : Nat} {a : Addr} {v v' old : Value} {ty : FieldType} (K : Cx w R Z n0 own bytes mx rt nm) (H : At1 w T h k n) (d : Dc bytes pc (.putfield idx) 3 pc') (w1 : (Cond.fieldLink own idx R0 f ds).before a0 Z = true) (via : Via Z R0 O f ds)
    (F : Fld Z h a O f ds old) (E : Exa Z h a C) (Ly : (Cond.lays C O f ds).before a0 Z = true ∨ ((Cond.laysFinal C O f ds).before a0 Z = true ∧ own = O ∧ nm = "<init>")) (wi : (Cond.instantiable C kk).before a0 Z = true)
    (hty : parseFieldDescriptor ds = some ty) (hn : narrow ty v = v') (hf : fits ty v' = true) (ha : n0 ≤ a)
    (G : ∀ T' h', At1 w T' h' k n → Wr h h' a (Jvm.RoadKit.slotOf Z O f ds) v' → Go w Q T' pc' L st) : Go w Q T pc L (v :: .ref a :: st) := by
  obtain ⟨p, l, e, R', s, m, args, below, meth, c, Z', k0⟩ := w
  obtain ⟨hx, hby, hml, hown, hZ, hret, hnm, hlk, rfl, rfl, rfl, h00⟩ := K
  obtain ⟨locs, X, eT, N⟩ := H
  obtain ⟨d1, rfl⟩ := d
  obtain ⟨T', h', X', e', W, stp⟩ := putFN X hx hZ hown w1 via eT F E (Ly.imp id fun q => ⟨q.1, q.2.1, hnm.trans q.2.2⟩) wi hty hn hf (g := mkF m pc L (v :: .ref a :: st)) rfl rfl (by rw [hby]; exact d1)
  obtain ⟨s₂, o, g1, g2⟩ := G T' h' ⟨_, X', e', Fr.snoc X' N ha⟩ W
  exact ⟨s₂, o, stp _ g1, g2⟩
theorem go_new {a0 : Array Value} {C : String} {idx sl : Nat} (K : Cx w R Z n0 own bytes mx rt nm) (H : At1 w T h k n) (d : Dc bytes pc (.new idx) 3 pc') (w1 : (Cond.classLink own idx C).before a0 Z = true) (w2 : (Cond.instantiable C sl).before a0 Z = true) (w3 : (Cond.initialized C).before a0 Z = true) (hk : k + 1 ≤ R.cells) (hn : n + sl ≤ R.slots)
    (G : ∀ T' h' a, At1 w T' h' (k + 1) (n + sl) → a = h.size → n0 ≤ a → Ext h h' → Exa Z h' a C → (∀ {O f ds : String} {ty : FieldType}, Laid Z a0 C O f ds → parseFieldDescriptor ds = some ty → Fld Z h' a O f ds (defaultValue ty)) → Go w Q T' pc' L (.ref a :: st)) : Go w Q T pc L st := by
  obtain ⟨p, l, e, R', s, m, args, below, meth, c, Z', k0⟩ := w
  obtain ⟨hx, hby, hml, hown, hZ, hret, hnm, hlk, rfl, rfl, rfl, h00⟩ := K
  obtain ⟨locs, X, eT, N⟩ := H
  obtain ⟨d1, rfl⟩ := d
  obtain ⟨T', h', X', e', E, A, D, -, stp⟩ := newO X hx hZ hown w1 w2 w3 eT (g := mkF m pc L st) rfl (by rw [hby]; exact d1) hk hn
  obtain ⟨s₂, o, g1, g2⟩ := G T' h' h.size ⟨_, X', e', N⟩ rfl (by rw [← eT]; exact Nat.le_trans h00 X.same.2.1) E A D
  exact ⟨s₂, o, stp _ g1, g2⟩
theorem go_initO {a0 : Array Value} {idx : Nat} {a : Addr} (K : Cx w R Z n0 own bytes mx rt nm) (H : At1 w T h k n) (d : Dc bytes pc (.invokespecial idx) 3 pc') (w1 : (Cond.methodLink own idx Lib.objectInit).before a0 Z = true) (w2 : (Cond.instanceMethod Lib.objectInit).before a0 Z = true) (w3 : (Cond.code Lib.objectInit ⟨#[0xb1]⟩ 1 none).before a0 Z = true)
    (hL : L.size = mx) (hf : 1 ≤ R.frames) {W : Nat} (hW : (st.map fun v => v.category).sum = W) (hl : W + 12 ≤ R.locals)
    (G : ∀ T', At1 w T' h k n → Go w Q T' pc' L st) : Go w Q T pc L (.ref a :: st) := by
  obtain ⟨p, l, e, R', s, m, args, below, meth, c, Z', k0⟩ := w
  obtain ⟨hx, hby, hml, hown, hZ, hret, hnm, hlk, rfl, rfl, rfl, h00⟩ := K
  obtain ⟨locs, X, eT, N⟩ := H
  obtain ⟨d1, rfl⟩ := d
  obtain ⟨T', X', e', stp⟩ := initO X hx hZ hown w1 w2 w3 eT (g := mkF m pc L (.ref a :: st)) rfl (hL.trans hml.symm) rfl (by rw [hby]; exact d1) hf (W := W) (by show 2 * 0 + _ ≤ _; rw [hW]; omega) hl
  obtain ⟨s₂, o, g1, g2⟩ := G T' ⟨locs, X', e', N⟩
  exact ⟨s₂, o, stp _ g1, g2⟩
/-- an array: all its components -/
def VA (Z : State) (h : Heap) (a : Addr) (ty : FieldType) (vs : List Value) : Prop := ∃ c : Cell, Arr Z h a c ty ∧ c.slots.toList = vs ∧ vs.length < 2 ^ 31
def IA (Z : State) (h : Heap) (a : Addr) (xs : List Int32) : Prop := VA Z h a .int (xs.map Value.int)
def JA (Z : State) (h : Heap) (a : Addr) (xs : List Int64) : Prop := VA Z h a .long (xs.map Value.long)
theorem VA.ext {a : Addr} {ty : FieldType} {vs : List Value} {h' : Heap} (A : VA Z h a ty vs) (E : Ext h h') : VA Z h' a ty vs := by obtain ⟨c, A, r⟩ := A; exact ⟨c, A.ext E, r⟩
theorem VA.other {a b : Addr} {ty : FieldType} {vs : List Value} {h' : Heap} {sl : Nat} {v : Value} (A : VA Z h a ty vs) (W : Wr h h' b sl v) (q : a ≠ b) : VA Z h' a ty vs := by obtain ⟨c, A, r⟩ := A; exact ⟨c, A.other W q, r⟩
theorem VA.keep {a : Addr} {ty : FieldType} {vs : List Value} {h' : Heap} {ws : List Addr} (A : VA Z h a ty vs) (K : Keep h h' ws) (q : a ∉ ws) : VA Z h' a ty vs := by obtain ⟨c, A, r⟩ := A; exact ⟨c, ⟨K.2.1 a c A.1 q, A.2⟩, r⟩
theorem VA.lt {a : Addr} {ty : FieldType} {vs : List Value} (A : VA Z h a ty vs) : a < h.size := by obtain ⟨c, A, r⟩ := A; exact A.lt
theorem VA.len {a : Addr} {ty : FieldType} {vs : List Value} (A : VA Z h a ty vs) : vs.length < 2 ^ 31 := by obtain ⟨c, A, r1, r2⟩ := A; exact r2
theorem VA.set {a : Addr} {ty : FieldType} {vs : List Value} {h' : Heap} {i : Nat} {v : Value} (A : VA Z h a ty vs) (W : Wr h h' a i v) : VA Z h' a ty (vs.set i v) := by
  obtain ⟨c, A, r1, r2⟩ := A
  exact ⟨_, A.same W, by simp [Cell.setSlot, r1], by simpa using r2⟩
theorem IA.ext {a : Addr} {xs : List Int32} {h' : Heap} (A : IA Z h a xs) (E : Ext h h') : IA Z h' a xs := VA.ext A E
theorem IA.other {a b : Addr} {xs : List Int32} {h' : Heap} {sl : Nat} {v : Value} (A : IA Z h a xs) (W : Wr h h' b sl v) (q : a ≠ b) : IA Z h' a xs := VA.other A W q
theorem IA.keep {a : Addr} {xs : List Int32} {h' : Heap} {ws : List Addr} (A : IA Z h a xs) (K : Keep h h' ws) (q : a ∉ ws) : IA Z h' a xs := VA.keep A K q
theorem IA.lt {a : Addr} {xs : List Int32} (A : IA Z h a xs) : a < h.size := VA.lt A
theorem IA.len {a : Addr} {xs : List Int32} (A : IA Z h a xs) : xs.length < 2 ^ 31 := by simpa using VA.len A
theorem IA.set {a : Addr} {xs : List Int32} {h' : Heap} {i : Nat} {x : Int32} (A : IA Z h a xs) (W : Wr h h' a i (.int x)) : IA Z h' a (xs.set i x) := by
  have q := VA.set A W
  rw [← List.map_set] at q; exact q
theorem JA.ext {a : Addr} {xs : List Int64} {h' : Heap} (A : JA Z h a xs) (E : Ext h h') : JA Z h' a xs := VA.ext A E
theorem JA.other {a b : Addr} {xs : List Int64} {h' : Heap} {sl : Nat} {v : Value} (A : JA Z h a xs) (W : Wr h h' b sl v) (q : a ≠ b) : JA Z h' a xs := VA.other A W q
theorem JA.keep {a : Addr} {xs : List Int64} {h' : Heap} {ws : List Addr} (A : JA Z h a xs) (K : Keep h h' ws) (q : a ∉ ws) : JA Z h' a xs := VA.keep A K q
theorem JA.lt {a : Addr} {xs : List Int64} (A : JA Z h a xs) : a < h.size := VA.lt A
theorem JA.len {a : Addr} {xs : List Int64} (A : JA Z h a xs) : xs.length < 2 ^ 31 := by simpa using VA.len A
theorem JA.set {a : Addr} {xs : List Int64} {h' : Heap} {i : Nat} {x : Int64} (A : JA Z h a xs) (W : Wr h h' a i (.long x)) : JA Z h' a (xs.set i x) := by
  have q := VA.set A W
  rw [← List.map_set] at q; exact q
theorem idx_nat {j : Int32} {i : Nat} (hj : j.toInt = (i : Int)) : ¬ j < 0 ∧ j.toNatClampNeg = i := by
  constructor
  · rw [Int32.lt_iff_toInt_lt, hj]; show ¬ ((i : Int) < 0); omega
  · simp only [Int32.toNatClampNeg, hj]; omega
theorem slot_at {c : Cell} {vs : List Value} {i : Nat} {v : Value} (r : c.slots.toList = vs) (hi : vs[i]? = some v) : c.slots[i]? = some v := by rw [← Array.getElem?_toList, r]; exact hi
theorem inb_at {c : Cell} {vs : List Value} {j : Int32} {i : Nat} (r : c.slots.toList = vs) (hj : j.toInt = (i : Int)) (hi : i < vs.length) : ¬ (j < 0 ∨ c.slots.size ≤ j.toNatClampNeg) := by
  obtain ⟨h1, h2⟩ := idx_nat hj
  have e : c.slots.size = vs.length := by rw [← r]; simp
  rw [h2, e]
  rintro (q | q)
  · exact h1 q
  · omega
theorem lt_of_at {α : Type} {vs : List α} {i : Nat} {v : α} (hi : vs[i]? = some v) : i < vs.length := (List.getElem?_eq_some_iff.mp hi).1
theorem go_newarray {a0 : Array Value} {aty : ArrayType} {m : Int32} (cap : Nat) (K : Cx w R Z n0 own bytes mx rt nm) (H : At1 w T h k n) (d : Dc bytes pc (.newarray aty) 2 pc') (w1 : (Cond.arrayClass (newarray.typeOf aty)).before a0 Z = true) (hm : ¬ m < 0) (hcap : m.toNatClampNeg ≤ cap) (hb : cap * 8 ≤ 536870912) (hk : k + 1 ≤ R.cells) (hn : n + cap ≤ R.slots)
    (G : ∀ T' h' a, At1 w T' h' (k + 1) (n + cap) → a = h.size → n0 ≤ a → Ext h h' → VA Z h' a (newarray.typeOf aty) (List.replicate m.toNatClampNeg (defaultValue (newarray.typeOf aty))) → Go w Q T' pc' L (.ref a :: st)) : Go w Q T pc L (.int m :: st) := by
  obtain ⟨p, l, e, R', s, mm, args, below, meth, c, Z', k0⟩ := w
  obtain ⟨hx, hby, hml, hown, hZ, hret, hnm, hlk, rfl, rfl, rfl, h00⟩ := K
  obtain ⟨locs, X, eT, N⟩ := H
  obtain ⟨d1, rfl⟩ := d
  obtain ⟨T', h', cA, X', e', E, A, stp⟩ := newP X hx hZ w1 eT (g := mkF mm pc L (.int m :: st)) rfl (by rw [hby]; exact d1) rfl hm hcap hb hk hn
  obtain ⟨s₂, o, g1, g2⟩ := G T' h' h.size ⟨_, X', e', N⟩ rfl (by rw [← eT]; exact Nat.le_trans h00 X.same.2.1) E ⟨_, A, by simp [newA], by simpa using (back32 hm).2⟩
  exact ⟨s₂, o, stp _ g1, g2⟩
theorem go_arraylength {a : Addr} {ty : FieldType} {vs : List Value} (K : Cx w R Z n0 own bytes mx rt nm) (H : At1 w T h k n) (d : Dc bytes pc .arraylength 1 pc') (A : VA Z h a ty vs) (G : ∀ z : Int32, z.toInt = (vs.length : Int) → Go w Q T pc' L (.int z :: st)) : Go w Q T pc L (.ref a :: st) := by
  obtain ⟨p, l, e, R', s, m, args, below, meth, c, Z', k0⟩ := w
  obtain ⟨hx, hby, hml, hown, hZ, -⟩ := K
  obtain ⟨locs, X, eT, N⟩ := H
  obtain ⟨d1, rfl⟩ := d
  obtain ⟨cl, A, r1, r2⟩ := A
  have e : cl.slots.size = vs.length := by rw [← r1]; simp
  obtain ⟨s₂, o, g1, g2⟩ := G cl.slots.size.toInt32 (by rw [e]; exact len_toInt r2)
  exact ⟨s₂, o, X.arraylength hx (by rw [eT]; exact A.1) (State.isArrayOf_alike hZ.alike A.2.1) (g := mkF m pc L (.ref a :: st)) rfl rfl (by rw [hby]; exact d1) _ g1, g2⟩
theorem go_iaload {a : Addr} {vs : List Value} {j : Int32} (i : Nat) {v : Value} (K : Cx w R Z n0 own bytes mx rt nm) (H : At1 w T h k n) (d : Dc bytes pc .iaload 1 pc') (A : VA Z h a .int vs) (hj : j.toInt = (i : Int)) (hi : vs[i]? = some v) (G : Go w Q T pc' L (v :: st)) : Go w Q T pc L (.int j :: .ref a :: st) := by
  obtain ⟨p, l, e, R', s, m, args, below, meth, c, Z', k0⟩ := w
  obtain ⟨hx, hby, hml, hown, hZ, -⟩ := K
  obtain ⟨locs, X, eT, N⟩ := H
  obtain ⟨d1, rfl⟩ := d
  obtain ⟨cl, A, r1, r2⟩ := A
  obtain ⟨s₂, o, g1, g2⟩ := G
  exact ⟨s₂, o, X.iaload hx (by rw [eT]; exact A.1) (State.isArrayOf_alike hZ.alike A.2.1) A.2.2 (inb_at r1 hj (lt_of_at hi)) (by rw [(idx_nat hj).2]; exact slot_at r1 hi) (g := mkF m pc L (.int j :: .ref a :: st)) rfl rfl (by rw [hby]; exact d1) _ g1, g2⟩
theorem go_laload {a : Addr} {vs : List Value} {j : Int32} (i : Nat) {v : Value} (K : Cx w R Z n0 own bytes mx rt nm) (H : At1 w T h k n) (d : Dc bytes pc .laload 1 pc') (A : VA Z h a .long vs) (hj : j.toInt = (i : Int)) (hi : vs[i]? = some v) (G : Go w Q T pc' L (v :: st)) : Go w Q T pc L (.int j :: .ref a :: st) := by
  obtain ⟨p, l, e, R', s, m, args, below, meth, c, Z', k0⟩ := w
  obtain ⟨hx, hby, hml, hown, hZ, -⟩ := K
  obtain ⟨locs, X, eT, N⟩ := H
  obtain ⟨d1, rfl⟩ := d
  obtain ⟨cl, A, r1, r2⟩ := A
  obtain ⟨s₂, o, g1, g2⟩ := G
  exact ⟨s₂, o, X.laload hx (by rw [eT]; exact A.1) (State.isArrayOf_alike hZ.alike A.2.1) A.2.2 (inb_at r1 hj (lt_of_at hi)) (by rw [(idx_nat hj).2]; exact slot_at r1 hi) (g := mkF m pc L (.int j :: .ref a :: st)) rfl rfl (by rw [hby]; exact d1) _ g1, g2⟩
theorem go_caload {a : Addr} {vs : List Value} {j : Int32} (i : Nat) {v : Value} (K : Cx w R Z n0 own bytes mx rt nm) (H : At1 w T h k n) (d : Dc bytes pc .caload 1 pc') (A : VA Z h a .char vs) (hj : j.toInt = (i : Int)) (hi : vs[i]? = some v) (G : Go w Q T pc' L (v :: st)) : Go w Q T pc L (.int j :: .ref a :: st) := by
  obtain ⟨p, l, e, R', s, m, args, below, meth, c, Z', k0⟩ := w
  obtain ⟨hx, hby, hml, hown, hZ, -⟩ := K
  obtain ⟨locs, X, eT, N⟩ := H
  obtain ⟨d1, rfl⟩ := d
  obtain ⟨cl, A, r1, r2⟩ := A
  obtain ⟨s₂, o, g1, g2⟩ := G
  exact ⟨s₂, o, X.caload hx (by rw [eT]; exact A.1) (State.isArrayOf_alike hZ.alike A.2.1) A.2.2 (inb_at r1 hj (lt_of_at hi)) (by rw [(idx_nat hj).2]; exact slot_at r1 hi) (g := mkF m pc L (.int j :: .ref a :: st)) rfl rfl (by rw [hby]; exact d1) _ g1, g2⟩
theorem go_baload {a : Addr} {vs : List Value} {j : Int32} (i : Nat) {v : Value} (K : Cx w R Z n0 own bytes mx rt nm) (H : At1 w T h k n) (d : Dc bytes pc .baload 1 pc') (A : VA Z h a .byte vs) (hj : j.toInt = (i : Int)) (hi : vs[i]? = some v) (G : Go w Q T pc' L (v :: st)) : Go w Q T pc L (.int j :: .ref a :: st) := by
  obtain ⟨p, l, e, R', s, m, args, below, meth, c, Z', k0⟩ := w
  obtain ⟨hx, hby, hml, hown, hZ, -⟩ := K
  obtain ⟨locs, X, eT, N⟩ := H
  obtain ⟨d1, rfl⟩ := d
  obtain ⟨cl, A, r1, r2⟩ := A
  obtain ⟨s₂, o, g1, g2⟩ := G
  exact ⟨s₂, o, X.baloadBytes hx (by rw [eT]; exact A.1) (State.isArrayOf_alike hZ.alike A.2.1) A.2.2 (inb_at r1 hj (lt_of_at hi)) (by rw [(idx_nat hj).2]; exact slot_at r1 hi) (g := mkF m pc L (.int j :: .ref a :: st)) rfl rfl (by rw [hby]; exact d1) _ g1, g2⟩
theorem go_aaload {a : Addr} {ty : FieldType} {vs : List Value} {j : Int32} (i : Nat) {v : Value} (K : Cx w R Z n0 own bytes mx rt nm) (H : At1 w T h k n) (d : Dc bytes pc .aaload 1 pc') (A : VA Z h a ty vs) (hty : ty.isReference = true) (hj : j.toInt = (i : Int)) (hi : vs[i]? = some v) (G : Go w Q T pc' L (v :: st)) : Go w Q T pc L (.int j :: .ref a :: st) := by
  obtain ⟨p, l, e, R', s, m, args, below, meth, c, Z', k0⟩ := w
  obtain ⟨hx, hby, hml, hown, hZ, -⟩ := K
  obtain ⟨locs, X, eT, N⟩ := H
  obtain ⟨d1, rfl⟩ := d
  obtain ⟨cl, A, r1, r2⟩ := A
  obtain ⟨s₂, o, g1, g2⟩ := G
  exact ⟨s₂, o, X.aaload hx (by rw [eT]; exact A.1) (State.isArrayOf_alike hZ.alike A.2.1) hty A.2.2 (inb_at r1 hj (lt_of_at hi)) (by rw [(idx_nat hj).2]; exact slot_at r1 hi) (g := mkF m pc L (.int j :: .ref a :: st)) rfl rfl (by rw [hby]; exact d1) _ g1, g2⟩
theorem go_iastore {a : Addr} {vs : List Value} {j : Int32} {x : Int32} (i : Nat) (K : Cx w R Z n0 own bytes mx rt nm) (H : At1 w T h k n) (d : Dc bytes pc .iastore 1 pc') (A : VA Z h a .int vs) (hj : j.toInt = (i : Int)) (hi : i < vs.length) (ha : n0 ≤ a) (G : ∀ T' h', At1 w T' h' k n → Wr h h' a i (.int x) → Go w Q T' pc' L st) : Go w Q T pc L (.int x :: .int j :: .ref a :: st) := by
  obtain ⟨p, l, e, R', s, m, args, below, meth, c, Z', k0⟩ := w
  obtain ⟨hx, hby, hml, hown, hZ, hret, hnm, hlk, rfl, rfl, rfl, h00⟩ := K
  obtain ⟨locs, X, eT, N⟩ := H
  obtain ⟨d1, rfl⟩ := d
  obtain ⟨cl, A, r1, r2⟩ := A
  obtain ⟨T', h', X', e', W, stp⟩ := stI X hx hZ eT A (inb_at r1 hj hi) (g := mkF m pc L (.int x :: .int j :: .ref a :: st)) rfl rfl (by rw [hby]; exact d1)
  obtain ⟨s₂, o, g1, g2⟩ := G T' h' ⟨_, X', e', Fr.snoc X' N ha⟩ (by rw [← (idx_nat hj).2]; exact W)
  exact ⟨s₂, o, stp _ g1, g2⟩
theorem go_lastore {a : Addr} {vs : List Value} {j : Int32} {x : Int64} (i : Nat) (K : Cx w R Z n0 own bytes mx rt nm) (H : At1 w T h k n) (d : Dc bytes pc .lastore 1 pc') (A : VA Z h a .long vs) (hj : j.toInt = (i : Int)) (hi : i < vs.length) (ha : n0 ≤ a) (G : ∀ T' h', At1 w T' h' k n → Wr h h' a i (.long x) → Go w Q T' pc' L st) : Go w Q T pc L (.long x :: .int j :: .ref a :: st) := by
  obtain ⟨p, l, e, R', s, m, args, below, meth, c, Z', k0⟩ := w
  obtain ⟨hx, hby, hml, hown, hZ, hret, hnm, hlk, rfl, rfl, rfl, h00⟩ := K
  obtain ⟨locs, X, eT, N⟩ := H
  obtain ⟨d1, rfl⟩ := d
  obtain ⟨cl, A, r1, r2⟩ := A
  obtain ⟨T', h', X', e', W, stp⟩ := stJ X hx hZ eT A (inb_at r1 hj hi) (g := mkF m pc L (.long x :: .int j :: .ref a :: st)) rfl rfl (by rw [hby]; exact d1)
  obtain ⟨s₂, o, g1, g2⟩ := G T' h' ⟨_, X', e', Fr.snoc X' N ha⟩ (by rw [← (idx_nat hj).2]; exact W)
  exact ⟨s₂, o, stp _ g1, g2⟩
theorem go_castore {a : Addr} {vs : List Value} {j : Int32} {x : Int32} (i : Nat) (K : Cx w R Z n0 own bytes mx rt nm) (H : At1 w T h k n) (d : Dc bytes pc .castore 1 pc') (A : VA Z h a .char vs) (hj : j.toInt = (i : Int)) (hi : i < vs.length) (ha : n0 ≤ a) (G : ∀ T' h', At1 w T' h' k n → Wr h h' a i (.int (nar .char x)) → Go w Q T' pc' L st) : Go w Q T pc L (.int x :: .int j :: .ref a :: st) := by
  obtain ⟨p, l, e, R', s, m, args, below, meth, c, Z', k0⟩ := w
  obtain ⟨hx, hby, hml, hown, hZ, hret, hnm, hlk, rfl, rfl, rfl, h00⟩ := K
  obtain ⟨locs, X, eT, N⟩ := H
  obtain ⟨d1, rfl⟩ := d
  obtain ⟨cl, A, r1, r2⟩ := A
  obtain ⟨T', h', X', e', W, stp⟩ := stC X hx hZ eT A (inb_at r1 hj hi) (g := mkF m pc L (.int x :: .int j :: .ref a :: st)) rfl rfl (by rw [hby]; exact d1)
  obtain ⟨s₂, o, g1, g2⟩ := G T' h' ⟨_, X', e', Fr.snoc X' N ha⟩ (by rw [← (idx_nat hj).2]; exact W)
  exact ⟨s₂, o, stp _ g1, g2⟩
theorem go_bastore {a : Addr} {vs : List Value} {j : Int32} {x : Int32} (i : Nat) (K : Cx w R Z n0 own bytes mx rt nm) (H : At1 w T h k n) (d : Dc bytes pc .bastore 1 pc') (A : VA Z h a .byte vs) (hj : j.toInt = (i : Int)) (hi : i < vs.length) (ha : n0 ≤ a) (G : ∀ T' h', At1 w T' h' k n → Wr h h' a i (.int x.toInt8.toInt32) → Go w Q T' pc' L st) : Go w Q T pc L (.int x :: .int j :: .ref a :: st) := by
  obtain ⟨p, l, e, R', s, m, args, below, meth, c, Z', k0⟩ := w
  obtain ⟨hx, hby, hml, hown, hZ, hret, hnm, hlk, rfl, rfl, rfl, h00⟩ := K
  obtain ⟨locs, X, eT, N⟩ := H
  obtain ⟨d1, rfl⟩ := d
  obtain ⟨cl, A, r1, r2⟩ := A
  obtain ⟨T', h', X', e', W, stp⟩ := stB X hx hZ eT A (inb_at r1 hj hi) (g := mkF m pc L (.int x :: .int j :: .ref a :: st)) rfl rfl (by rw [hby]; exact d1)
  obtain ⟨s₂, o, g1, g2⟩ := G T' h' ⟨_, X', e', Fr.snoc X' N ha⟩ (by rw [← (idx_nat hj).2]; exact W)
  exact ⟨s₂, o, stp _ g1, g2⟩
theorem at_nat {α : Type} {xs : List α} {j : Int32} (h0 : 0 ≤ j.toInt) (h1 : j.toInt < xs.length) : ∃ (i : Nat) (x : α), j.toInt = (i : Int) ∧ xs[i]? = some x :=
  ⟨j.toInt.toNat, _, (Int.toNat_of_nonneg h0).symm, List.getElem?_eq_getElem (by omega)⟩
theorem go_iaI {a : Addr} {xs : List Int32} {j : Int32} (K : Cx w R Z n0 own bytes mx rt nm) (H : At1 w T h k n) (d : Dc bytes pc .iaload 1 pc') (A : IA Z h a xs) (h0 : 0 ≤ j.toInt) (h1 : j.toInt < xs.length) (G : ∀ (i : Nat) (x : Int32), j.toInt = (i : Int) → xs[i]? = some x → Go w Q T pc' L (.int x :: st)) : Go w Q T pc L (.int j :: .ref a :: st) := by
  obtain ⟨i, x, e, hx⟩ := at_nat h0 h1
  exact go_iaload i K H d A e (by rw [List.getElem?_map, hx]; rfl) (G i x e hx)
theorem go_laJ {a : Addr} {xs : List Int64} {j : Int32} (K : Cx w R Z n0 own bytes mx rt nm) (H : At1 w T h k n) (d : Dc bytes pc .laload 1 pc') (A : JA Z h a xs) (h0 : 0 ≤ j.toInt) (h1 : j.toInt < xs.length) (G : ∀ (i : Nat) (x : Int64), j.toInt = (i : Int) → xs[i]? = some x → Go w Q T pc' L (.long x :: st)) : Go w Q T pc L (.int j :: .ref a :: st) := by
  obtain ⟨i, x, e, hx⟩ := at_nat h0 h1
  exact go_laload i K H d A e (by rw [List.getElem?_map, hx]; rfl) (G i x e hx)
theorem go_iasI {a : Addr} {xs : List Int32} {j x : Int32} (K : Cx w R Z n0 own bytes mx rt nm) (H : At1 w T h k n) (d : Dc bytes pc .iastore 1 pc') (A : IA Z h a xs) (h0 : 0 ≤ j.toInt) (h1 : j.toInt < xs.length) (ha : n0 ≤ a) (G : ∀ T' h' (i : Nat), At1 w T' h' k n → j.toInt = (i : Int) → Wr h h' a i (.int x) → IA Z h' a (xs.set i x) → Go w Q T' pc' L st) : Go w Q T pc L (.int x :: .int j :: .ref a :: st) := by
  have e : j.toInt = (j.toInt.toNat : Int) := (Int.toNat_of_nonneg h0).symm
  exact go_iastore j.toInt.toNat K H d A e (by rw [List.length_map]; omega) ha fun T' h' H' W => G T' h' _ H' e W (IA.set A W)
theorem go_lasJ {a : Addr} {xs : List Int64} {j : Int32} {x : Int64} (K : Cx w R Z n0 own bytes mx rt nm) (H : At1 w T h k n) (d : Dc bytes pc .lastore 1 pc') (A : JA Z h a xs) (h0 : 0 ≤ j.toInt) (h1 : j.toInt < xs.length) (ha : n0 ≤ a) (G : ∀ T' h' (i : Nat), At1 w T' h' k n → j.toInt = (i : Int) → Wr h h' a i (.long x) → JA Z h' a (xs.set i x) → Go w Q T' pc' L st) : Go w Q T pc L (.long x :: .int j :: .ref a :: st) := by
  have e : j.toInt = (j.toInt.toNat : Int) := (Int.toNat_of_nonneg h0).symm
  exact go_lastore j.toInt.toNat K H d A e (by rw [List.length_map]; omega) ha fun T' h' H' W => G T' h' _ H' e W (JA.set A W)
/-- an array of references over C: all its components -/
def OA (Z : State) (h : Heap) (a : Addr) (C : String) (vs : List Value) : Prop := ∃ c : Cell, Arr Z h a c (.object C) ∧ c.slots.toList = vs ∧ vs.length < 2 ^ 31 ∧ Ovr Z c.cls C
theorem OA.va {a : Addr} {C : String} {vs : List Value} (A : OA Z h a C vs) : VA Z h a (.object C) vs := by obtain ⟨c, A, r1, r2, -⟩ := A; exact ⟨c, A, r1, r2⟩
theorem OA.ext {a : Addr} {C : String} {vs : List Value} {h' : Heap} (A : OA Z h a C vs) (E : Ext h h') : OA Z h' a C vs := by obtain ⟨c, A, r⟩ := A; exact ⟨c, A.ext E, r⟩
theorem OA.other {a b : Addr} {C : String} {vs : List Value} {h' : Heap} {sl : Nat} {v : Value} (A : OA Z h a C vs) (W : Wr h h' b sl v) (q : a ≠ b) : OA Z h' a C vs := by obtain ⟨c, A, r⟩ := A; exact ⟨c, A.other W q, r⟩
theorem OA.keep {a : Addr} {C : String} {vs : List Value} {h' : Heap} {ws : List Addr} (A : OA Z h a C vs) (K : Keep h h' ws) (q : a ∉ ws) : OA Z h' a C vs := by obtain ⟨c, A, r⟩ := A; exact ⟨c, ⟨K.2.1 a c A.1 q, A.2⟩, r⟩
theorem OA.lt {a : Addr} {C : String} {vs : List Value} (A : OA Z h a C vs) : a < h.size := A.va.lt
theorem OA.set {a : Addr} {C : String} {vs : List Value} {h' : Heap} {i : Nat} {v : Value} (A : OA Z h a C vs) (W : Wr h h' a i v) : OA Z h' a C (vs.set i v) := by
  obtain ⟨c, A, r1, r2, r3⟩ := A
  exact ⟨_, A.same W, by simp [Cell.setSlot, r1], by simpa using r2, r3⟩
theorem go_anewarray {a0 : Array Value} {C : String} {idx : Nat} {m : Int32} (cap : Nat) (K : Cx w R Z n0 own bytes mx rt nm) (H : At1 w T h k n) (d : Dc bytes pc (.anewarray idx) 3 pc') (w1 : (Cond.classLink own idx C).before a0 Z = true) (w2 : (Cond.arrayOver (.object C)).before a0 Z = true) (hm : ¬ m < 0) (hcap : m.toNatClampNeg ≤ cap) (hb : cap * 8 ≤ 536870912) (hk : k + 1 ≤ R.cells) (hn : n + cap ≤ R.slots)
    (G : ∀ T' h' a, At1 w T' h' (k + 1) (n + cap) → a = h.size → n0 ≤ a → Ext h h' → OA Z h' a C (List.replicate m.toNatClampNeg .null) → Go w Q T' pc' L (.ref a :: st)) : Go w Q T pc L (.int m :: st) := by
  obtain ⟨p, l, e, R', s, mm, args, below, meth, c, Z', k0⟩ := w
  obtain ⟨hx, hby, hml, hown, hZ, hret, hnm, hlk, rfl, rfl, rfl, h00⟩ := K
  obtain ⟨locs, X, eT, N⟩ := H
  obtain ⟨d1, rfl⟩ := d
  obtain ⟨T', h', cA, X', e', E, A, O, stp⟩ := newR X hx hZ hown w1 w2 eT (g := mkF mm pc L (.int m :: st)) rfl (by rw [hby]; exact d1) rfl hm hcap hb hk hn
  obtain ⟨s₂, o, g1, g2⟩ := G T' h' h.size ⟨_, X', e', N⟩ rfl (by rw [← eT]; exact Nat.le_trans h00 X.same.2.1) E ⟨_, A, by simp [newA, defaultValue], by simpa using (back32 hm).2, O⟩
  exact ⟨s₂, o, stp _ g1, g2⟩
theorem go_aastore {a : Addr} {C : String} {vs : List Value} {j : Int32} {v : Value} (i : Nat) (K : Cx w R Z n0 own bytes mx rt nm) (H : At1 w T h k n) (d : Dc bytes pc .aastore 1 pc') (A : OA Z h a C vs) (hv : v = .null ∨ ∃ y, v = .ref y ∧ Ins Z h y C true) (hj : j.toInt = (i : Int)) (hi : i < vs.length) (ha : n0 ≤ a) (G : ∀ T' h', At1 w T' h' k n → Wr h h' a i v → OA Z h' a C (vs.set i v) → Go w Q T' pc' L st) : Go w Q T pc L (v :: .int j :: .ref a :: st) := by
  obtain ⟨p, l, e, R', s, m, args, below, meth, c, Z', k0⟩ := w
  obtain ⟨hx, hby, hml, hown, hZ, hret, hnm, hlk, rfl, rfl, rfl, h00⟩ := K
  obtain ⟨locs, X, eT, N⟩ := H
  obtain ⟨d1, rfl⟩ := d
  have A' := A
  obtain ⟨cl, A, r1, r2, r3⟩ := A
  have S : Sto Z' h a v := by
    rcases hv with rfl | ⟨y, rfl, I⟩
    · exact Or.inl rfl
    · exact Sto.of A r3 I
  obtain ⟨T', h', X', e', W, stp⟩ := stR X hx hZ eT A (inb_at r1 hj hi) rfl S (g := mkF m pc L (v :: .int j :: .ref a :: st)) rfl rfl (by rw [hby]; exact d1)
  have W' : Wr h h' a i v := by rw [← (idx_nat hj).2]; exact W
  obtain ⟨s₂, o, g1, g2⟩ := G T' h' ⟨_, X', e', Fr.snoc X' N ha⟩ W' (A'.set W')
  exact ⟨s₂, o, stp _ g1, g2⟩
theorem go_checkcast {a0 : Array Value} {C : String} {idx : Nat} {a : Addr} (K : Cx w R Z n0 own bytes mx rt nm) (H : At1 w T h k n) (d : Dc bytes pc (.checkcast idx) 3 pc') (w1 : (Cond.classLink own idx C).before a0 Z = true) (F : Ins Z h a C true)
    (G : ∀ T', At1 w T' h k n → Go w Q T' pc' L (.ref a :: st)) : Go w Q T pc L (.ref a :: st) := by
  obtain ⟨p, l, e, R', s, m, args, below, meth, c, Z', k0⟩ := w
  obtain ⟨hx, hby, hml, hown, hZ, -⟩ := K
  obtain ⟨locs, X, eT, N⟩ := H
  obtain ⟨d1, rfl⟩ := d
  obtain ⟨T', X', e', stp⟩ := castY X hx hZ hown w1 eT F (g := mkF m pc L (.ref a :: st)) rfl rfl (by rw [hby]; exact d1)
  obtain ⟨s₂, o, g1, g2⟩ := G T' ⟨locs, X', e', N⟩
  exact ⟨s₂, o, stp _ g1, g2⟩
theorem go_instY {a0 : Array Value} {C : String} {idx : Nat} {a : Addr} (K : Cx w R Z n0 own bytes mx rt nm) (H : At1 w T h k n) (d : Dc bytes pc (.instanceof idx) 3 pc') (w1 : (Cond.classLink own idx C).before a0 Z = true) (F : Ins Z h a C true)
    (G : ∀ T', At1 w T' h k n → Go w Q T' pc' L (.int 1 :: st)) : Go w Q T pc L (.ref a :: st) := by
  obtain ⟨p, l, e, R', s, m, args, below, meth, c, Z', k0⟩ := w
  obtain ⟨hx, hby, hml, hown, hZ, -⟩ := K
  obtain ⟨locs, X, eT, N⟩ := H
  obtain ⟨d1, rfl⟩ := d
  obtain ⟨T', X', e', stp⟩ := instY X hx hZ hown w1 eT F (g := mkF m pc L (.ref a :: st)) rfl rfl (by rw [hby]; exact d1)
  obtain ⟨s₂, o, g1, g2⟩ := G T' ⟨locs, X', e', N⟩
  exact ⟨s₂, o, stp _ g1, g2⟩
theorem eqI_v {t : Term} {z : Int32} {args : Array Value} {s : State} (h : (Cond.eq t (.int z)).value args s none s [] = some true) : t.eval args s none [] s = some (.int z) := by
  obtain ⟨x, y, h1, h2, k1, k2⟩ := cmp_v (Or.inl h)
  cases (Term.int_eval z).symm.trans h2
  obtain ⟨q, rfl⟩ := k2
  rw [h1, gotT (Cond.eq_ints h1 h2) h]
theorem len_size {t : Term} {z : Int32} {a : Addr} {c : Cell} {args : Array Value} {s : State} (h : (Term.length t).eval args s none [] s = some (.int z)) (ht : t.eval args s none [] s = some (.ref a)) (hc : s.heap[a]? = some c) : (c.slots.size : Int) = z.toInt := by
  obtain ⟨a', c', e1, e2, e3⟩ := Term.length_spec h
  cases ht.symm.trans e1
  cases hc.symm.trans (State.arrayAt?_spec e2).1
  by_cases q : c.slots.size < 2 ^ 31
  · cases e3; exact (len_toInt q).symm
  · simp [Term.eval, ht, e2, q] at h
theorem elem_val {t : Term} {z : Int32} {a : Addr} {c : Cell} {args : Array Value} {s : State} {j : Int32} (h : (Term.elem t (.int j)).eval args s none [] s = some (.int z)) (ht : t.eval args s none [] s = some (.ref a)) (hc : s.heap[a]? = some c) : c.slots[j.toNatClampNeg]? = some (.int z) := (elem_in h ht (Term.int_eval j) hc).2
theorem go_instNull {idx : Nat} (K : Cx w R Z n0 own bytes mx rt nm) (H : At1 w T h k n) (d : Dc bytes pc (.instanceof idx) 3 pc') (G : Go w Q T pc' L (.int 0 :: st)) : Go w Q T pc L (.null :: st) := by
  obtain ⟨p, l, e, R', s, m, args, below, meth, c, Z', k0⟩ := w
  obtain ⟨hx, hby, -⟩ := K
  obtain ⟨locs, X, eT, N⟩ := H
  obtain ⟨d1, rfl⟩ := d
  obtain ⟨s₂, o, g1, g2⟩ := G
  exact ⟨s₂, o, X.instanceofNull hx (g := mkF m pc L (.null :: st)) rfl rfl (by rw [hby]; exact d1) _ g1, g2⟩
theorem go_instNo {a0 : Array Value} {C C' : String} {idx : Nat} {a : Addr} (K : Cx w R Z n0 own bytes mx rt nm) (H : At1 w T h k n) (d : Dc bytes pc (.instanceof idx) 3 pc') (w1 : (Cond.classLink own idx C).before a0 Z = true) (E : Exa Z h a C') (F : ∃ c t, Z.vm.findClass C' = some c ∧ Z.vm.findClass C = some t ∧ Z.vm.assignable c t = false)
    (G : ∀ T', At1 w T' h k n → Go w Q T' pc' L (.int 0 :: st)) : Go w Q T pc L (.ref a :: st) := by
  obtain ⟨p, l, e, R', s, m, args, below, meth, c, Z', k0⟩ := w
  obtain ⟨hx, hby, hml, hown, hZ, -⟩ := K
  obtain ⟨locs, X, eT, N⟩ := H
  obtain ⟨d1, rfl⟩ := d
  obtain ⟨T', X', e', stp⟩ := instNo X hx hZ hown w1 eT E F (g := mkF m pc L (.ref a :: st)) rfl rfl (by rw [hby]; exact d1)
  obtain ⟨s₂, o, g1, g2⟩ := G T' ⟨locs, X', e', N⟩
  exact ⟨s₂, o, stp _ g1, g2⟩
theorem ns_root {a0 : Array Value} {O C : String} {j : Nat} (w1 : (Cond.noSuperclass O).before a0 Z = true) (wk : (Cond.instantiable C j).before a0 Z = true) (hn : O ≠ C) : NS Z O C := by
  obtain ⟨c, k, h1, h2, h3, -, -⟩ := Cond.noSuperclass_spec w1
  obtain ⟨t, kt, g1, -⟩ := Cond.instantiable_spec wk
  have ne := ids_ne h1 g1 hn
  refine ⟨c, t, h1, g1, fun fuel => ?_⟩
  cases fuel with
  | zero => rfl
  | succ f => simp [Vm.isSubclassAux, ne, h2, h3]
theorem ns_no {a0 : Array Value} {C S C' : String} {j : Nat} (w1 : (Cond.superclass C S).before a0 Z = true) (wk : (Cond.instantiable C' j).before a0 Z = true) (n : NS Z C C') (hn : C ≠ C') : ∃ c t, Z.vm.findClass C = some c ∧ Z.vm.findClass C' = some t ∧ Z.vm.assignable c t = false := by
  obtain ⟨c, t, h0, g0, n3⟩ := n
  obtain ⟨p, k, kp, h1, h2, h3, h4, h5, -, h7⟩ := Cond.superclass_spec h0 w1
  obtain ⟨q, k', g1, g2, g3, g4, -⟩ := Cond.instantiable_spec wk
  cases g0.symm.trans g1
  have ne := ids_ne h0 g0 hn
  refine ⟨c, _, h0, g0, ?_⟩
  show Z.vm.assignableAux (255 + 1) c _ = false
  simp [Vm.assignableAux, ne, h2, g2, h5, g3, (Bool.or_eq_false_iff.mp g4).1, Vm.isSubclass, n3]
theorem VA.arv {a : Addr} {ty : FieldType} {vs : List Value} (A : VA Z h a ty vs) (dv : Value) (hf : ∀ v ∈ vs, fits ty v = true) : ∃ cid, Arv Z h a cid ty (Nat.toInt32 vs.length) vs dv := by
  obtain ⟨c, A, r1, r2⟩ := A
  have hs : c.slots.size = vs.length := by rw [← r1]; simp
  have hn : (Nat.toInt32 vs.length).toNatClampNeg = vs.length := by simp only [Int32.toNatClampNeg, len_toInt r2]; rfl
  refine ⟨c.cls, c, A, rfl, by rw [hn, hs], ?_, fun i hi => ?_, fun i hi => ?_⟩
  · rw [Int32.lt_iff_toInt_lt, len_toInt r2]; show ¬ ((vs.length : Int) < 0); omega
  · rw [hs] at hi
    rw [← Array.getElem?_toList, r1, List.getD_eq_getElem?_getD, List.getElem?_eq_getElem hi]; rfl
  · rw [hs] at hi
    rw [List.getD_eq_getElem?_getD, List.getElem?_eq_getElem hi]; exact hf _ (List.getElem_mem hi)
theorem VA.of_arr {a : Addr} {ty : FieldType} {c : Cell} {vs : List Value} (A : Arr Z h a c ty) (hs : c.slots.size = vs.length) (hl : vs.length < 2 ^ 31) (he : ∀ i, i < vs.length → c.slots[i]? = vs[i]?) : VA Z h a ty vs := by
  refine ⟨c, A, List.ext_getElem? fun i => ?_, hl⟩
  rw [Array.getElem?_toList]
  by_cases q : i < vs.length
  · exact he i q
  · rw [List.getElem?_eq_none (by omega), Array.getElem?_eq_none (by omega)]
theorem VA.of_arv {a : Addr} {ty : FieldType} {cid : ClassId} {z : Int32} {vs : List Value} {dv : Value} (A : Arv Z h a cid ty z vs dv) (hl : vs.length = z.toNatClampNeg) (hz : vs.length < 2 ^ 31) : VA Z h a ty vs := by
  obtain ⟨c, A, -, hs, -, H, -⟩ := A
  refine VA.of_arr A (by rw [hs, hl]) hz fun i hi => ?_
  rw [H i (by rw [hs, ← hl]; exact hi), List.getD_eq_getElem?_getD, List.getElem?_eq_getElem hi]; rfl
theorem go_copyI {a0 : Array Value} {idx : Nat} {a b : Addr} {xs ys : List Int32} {sp dp nn : Int32} (i j l : Nat) (K : Cx w R Z n0 own bytes mx rt nm) (H : At1 w T h k n) (d : Dc bytes pc (.invokestatic idx) 3 pc') (w1 : (Cond.methodLink own idx Jvm.Stand.acN).before a0 Z = true) (w2 : (Cond.native Jvm.Stand.acN).before a0 Z = true) (w3 : (Cond.static Jvm.Stand.acN).before a0 Z = true) (w4 : (Cond.initialized "java/lang/System").before a0 Z = true)
    (A : IA Z h a xs) (B : IA Z h b ys) (e1 : sp.toInt = (i : Int)) (e2 : dp.toInt = (j : Int)) (e3 : nn.toInt = (l : Int)) (b1 : i + l ≤ xs.length) (b2 : j + l ≤ ys.length) (ge : n0 ≤ b) (hL : L.size = mx) (hf : 1 ≤ R.frames) {W : Nat} (hW : (st.map fun v => v.category).sum = W) (hl : W + (nativeFrameWords "java/lang/System" "arraycopy" 5 + 11) ≤ R.locals)
    (G : ∀ T' h', At1 w T' h' k n → Keep h h' [b] → IA Z h' b (ys.take j ++ (xs.drop i).take l ++ ys.drop (j + l)) → Go w Q T' pc' L st) : Go w Q T pc L (.int nn :: .int dp :: .ref b :: .int sp :: .ref a :: st) := by
  obtain ⟨p, l', e, R', s, m, args, below, meth, c, Z', k0⟩ := w
  obtain ⟨hx, hby, hml, hown, hZ, hret, hnm, hlk, rfl, rfl, rfl, h00⟩ := K
  obtain ⟨locs, X, eT, N⟩ := H
  obtain ⟨d1, rfl⟩ := d
  have ft : ∀ (zs : List Int32), ∀ v ∈ zs.map Value.int, fits .int v = true := fun zs v hv => by obtain ⟨y, -, rfl⟩ := List.mem_map.mp hv; rfl
  have la := A.len
  have lb := B.len
  obtain ⟨ca, VA1⟩ := VA.arv A (.int 0) (ft xs)
  obtain ⟨cb, VB1⟩ := VA.arv B (.int 0) (ft ys)
  have la' : (Nat.toInt32 (xs.map Value.int).length).toNatClampNeg = xs.length := by simp only [List.length_map, Int32.toNatClampNeg, len_toInt la]; rfl
  have lb' : (Nat.toInt32 (ys.map Value.int).length).toNatClampNeg = ys.length := by simp only [List.length_map, Int32.toNatClampNeg, len_toInt lb]; rfl
  have hus : ((xs.drop i).take l).map Value.int = (List.range nn.toNatClampNeg).map fun q => (xs.map Value.int).getD (sp.toNatClampNeg + q) (.int 0) := by
    rw [(idx_nat e3).2, (idx_nat e1).2]
    apply List.ext_getElem?
    intro q
    rw [List.getElem?_map, List.getElem?_map]
    by_cases hq : q < l
    · rw [List.getElem?_take_of_lt hq, List.getElem?_drop, List.getElem?_range hq, List.getElem?_eq_getElem (show i + q < xs.length by omega)]
      simp [List.getD_eq_getElem?_getD, List.getElem?_eq_getElem (show i + q < xs.length by omega)]
    · rw [List.getElem?_eq_none (by simp; omega), List.getElem?_eq_none (by simp; omega)]; rfl
  obtain ⟨T', h', L2, X', e', N', K', B', stp⟩ := cpA X hx hZ hown w1 w2 w3 w4 eT VA1 VB1 (Or.inl ⟨rfl, rfl⟩) (idx_nat e1).1 (idx_nat e2).1 (idx_nat e3).1 (by rw [(idx_nat e1).2, (idx_nat e3).2, la']; exact b1) (by rw [(idx_nat e2).2, (idx_nat e3).2, lb']; exact b2) hus (by rw [(idx_nat e2).2, (idx_nat e3).2, List.length_map]; exact b2) N ge (g := mkF m pc L (.int nn :: .int dp :: .ref b :: .int sp :: .ref a :: st)) rfl (hL.trans hml.symm) rfl (by rw [hby]; exact d1) hf (W := W) (by show 2 * 0 + _ ≤ _; rw [hW]; omega) hl
  rw [(idx_nat e2).2, (idx_nat e3).2] at B'
  have B2 : IA Z' h' b (ys.take j ++ (xs.drop i).take l ++ ys.drop (j + l)) := by
    have q := VA.of_arv B' (by rw [lb']; simp; omega) (by simp; omega)
    rw [← List.map_take, ← List.map_drop, ← List.map_append, ← List.map_append] at q
    exact q
  obtain ⟨s₂, o, g1, g2⟩ := G T' h' ⟨_, X', e', N'⟩ K' B2
  exact ⟨s₂, o, stp _ g1, g2⟩
theorem f_iadd {v x y : Int32} (e : v = x + y) : (v.toInt - (x.toInt + y.toInt)) % 4294967296 = 0 := e ▸ c_iadd x y
theorem f_isub {v x y : Int32} (e : v = x - y) : (v.toInt - (x.toInt - y.toInt)) % 4294967296 = 0 := e ▸ c_isub x y
theorem f_imul {v x y : Int32} (e : v = x * y) : (v.toInt - (x.toInt * y.toInt)) % 4294967296 = 0 := e ▸ c_imul x y
theorem f_ineg {v x : Int32} (e : v = -x) : (v.toInt - (-x.toInt)) % 4294967296 = 0 := e ▸ c_ineg x
theorem f_ladd {v x y : Int64} (e : v = x + y) : (v.toInt - (x.toInt + y.toInt)) % 18446744073709551616 = 0 := e ▸ c_ladd x y
theorem f_lsub {v x y : Int64} (e : v = x - y) : (v.toInt - (x.toInt - y.toInt)) % 18446744073709551616 = 0 := e ▸ c_lsub x y
theorem f_lmul {v x y : Int64} (e : v = x * y) : (v.toInt - (x.toInt * y.toInt)) % 18446744073709551616 = 0 := e ▸ c_lmul x y
theorem f_lneg {v x : Int64} (e : v = -x) : (v.toInt - (-x.toInt)) % 18446744073709551616 = 0 := e ▸ c_lneg x
theorem f_l2i {v : Int32} {x : Int64} (e : v = x.toInt32) : (v.toInt - x.toInt) % 4294967296 = 0 := e ▸ c_l2i x
theorem f_i2l {v : Int64} {x : Int32} (e : v = x.toInt64) : v.toInt = x.toInt := e ▸ c_i2l x
theorem f_i2b {v x : Int32} (e : v = x.toInt8.toInt32) : (v.toInt - x.toInt) % 256 = 0 ∧ -128 ≤ v.toInt ∧ v.toInt < 128 := e ▸ c_i2b x
theorem f_i2s {v x : Int32} (e : v = x.toInt16.toInt32) : (v.toInt - x.toInt) % 65536 = 0 ∧ -32768 ≤ v.toInt ∧ v.toInt < 32768 := e ▸ c_i2s x
theorem f_i2c {v x : Int32} (e : v = x.toUInt32.toUInt16.toUInt32.toInt32) : (v.toInt - x.toInt) % 65536 = 0 ∧ 0 ≤ v.toInt ∧ v.toInt < 65536 := e ▸ c_i2c x
theorem f_mask {v x m : Int32} (M : Nat) (k : Nat) (e : v = x &&& m) (hk : k ≤ 31) (hm : m.toBitVec.toNat = 2 ^ k - 1) (hM : 2 ^ k = M) : v.toInt = x.toInt % (M : Nat) := by rw [e, ← hM]; exact c_mask x m k hk hm
theorem f_maskL {v x m : Int64} (M : Nat) (k : Nat) (e : v = x &&& m) (hk : k ≤ 63) (hm : m.toBitVec.toNat = 2 ^ k - 1) (hM : 2 ^ k = M) : v.toInt = x.toInt % (M : Nat) := by rw [e, ← hM]; exact c_maskL x m k hk hm
theorem f_ishr {v x q : Int32} (M : Nat) (k : Nat) (e : v = x >>> (q &&& 31)) (hk : q.toBitVec.toNat % 32 = k) (hM : 2 ^ k = M) : v.toInt = x.toInt / (M : Nat) := by rw [e, ← hM]; exact c_ishr x q k hk
theorem f_ishl {v x q : Int32} (M : Nat) (k : Nat) (e : v = x <<< (q &&& 31)) (hk : q.toBitVec.toNat % 32 = k) (hM : 2 ^ k = M) : (v.toInt - x.toInt * (M : Nat)) % 4294967296 = 0 := by rw [e, ← hM]; exact c_ishl x q k hk
theorem f_iushr {v x q : Int32} (M : Nat) (k : Nat) (e : v = iU x q) (hk : q.toBitVec.toNat % 32 = k) (h0 : 0 < k) (hM : 2 ^ k = M) : v.toInt = (x.toInt % 4294967296) / (M : Nat) := by rw [e, ← hM]; exact c_iushr x q k hk h0
theorem f_lshr {v x : Int64} {q : Int32} (M : Nat) (k : Nat) (e : v = x >>> (q &&& 0x3f).toInt64) (hk : q.toBitVec.toNat % 64 = k) (hM : 2 ^ k = M) : v.toInt = x.toInt / (M : Nat) := by rw [e, ← hM]; exact c_lshr x q k hk
theorem f_lshl {v x : Int64} {q : Int32} (M : Nat) (k : Nat) (e : v = x <<< (q &&& 0x3f).toInt64) (hk : q.toBitVec.toNat % 64 = k) (hM : 2 ^ k = M) : (v.toInt - x.toInt * (M : Nat)) % 18446744073709551616 = 0 := by rw [e, ← hM]; exact c_lshl x q k hk
theorem f_lushr {v x : Int64} {q : Int32} (M : Nat) (k : Nat) (e : v = lU x q) (hk : q.toBitVec.toNat % 64 = k) (h0 : 0 < k) (hM : 2 ^ k = M) : v.toInt = (x.toInt % 18446744073709551616) / (M : Nat) := by rw [e, ← hM]; exact c_lushr x q k hk h0
theorem f_idiv {v x y : Int32} (d : Int) (e : v = x / y) (hy : y.toInt = d) (hd : y ≠ -1) : (0 ≤ x.toInt → v.toInt = x.toInt / d) ∧ (x.toInt < 0 → v.toInt = -((-x.toInt) / d)) := e ▸ c_idiv x y d hy hd
theorem f_irem {v x y : Int32} (d : Int) (e : v = x % y) (hy : y.toInt = d) : (0 ≤ x.toInt → v.toInt = x.toInt % d) ∧ (x.toInt < 0 → v.toInt = -((-x.toInt) % d)) := e ▸ c_irem x y d hy
theorem f_ldiv {v x y : Int64} (d : Int) (e : v = x / y) (hy : y.toInt = d) (hd : y ≠ -1) : (0 ≤ x.toInt → v.toInt = x.toInt / d) ∧ (x.toInt < 0 → v.toInt = -((-x.toInt) / d)) := e ▸ c_ldiv x y d hy hd
theorem f_lrem {v x y : Int64} (d : Int) (e : v = x - (x / y) * y) (hy : y.toInt = d) : (0 ≤ x.toInt → v.toInt = x.toInt % d) ∧ (x.toInt < 0 → v.toInt = -((-x.toInt) % d)) := e ▸ c_lrem x y d hy
theorem f_lcmp {v : Int32} {x y : Int64} (e : v = lcmpW x y) : (x.toInt < y.toInt → v.toInt = -1) ∧ (x.toInt = y.toInt → v.toInt = 0) ∧ (y.toInt < x.toInt → v.toInt = 1) := e ▸ c_lcmp x y
def bI (p : Prop) [Decidable p] : Int32 := if p then 1 else 0
theorem bI_t {p : Prop} [Decidable p] (h : p) : bI p = 1 := if_pos h
theorem bI_f {p : Prop} [Decidable p] (h : ¬ p) : bI p = 0 := if_neg h
theorem bI_nar {p : Prop} [Decidable p] : nar .boolean (bI p) = bI p := by unfold bI; split <;> decide
theorem bI_iff {p q : Prop} [Decidable p] [Decidable q] (h : p ↔ q) : bI p = bI q := by simp [bI, h]
theorem bI_eq0 {p : Prop} [Decidable p] : bI p = 0 ↔ ¬ p := by unfold bI; split <;> simp_all
theorem bI_eq1 {p : Prop} [Decidable p] : bI p = 1 ↔ p := by unfold bI; split <;> simp_all
theorem cat_ref {v : Value} (h : v.isRef = true) : v.category = 1 := by cases v <;> first | rfl | cases h
theorem bI_inj {p q : Prop} [Decidable p] [Decidable q] : bI p = bI q ↔ (p ↔ q) := by unfold bI; split <;> split <;> simp_all
theorem bI_ne0 {p : Prop} [Decidable p] : ¬ bI p = 0 ↔ p := by unfold bI; split <;> simp_all
theorem go_lookupHit (K : Cx w R Z n0 own bytes mx rt nm) (H : At1 w T h k n) {x : Int32} {df b off : Int} {ps : Array (Int × Int)} {q yes : Nat} (d : Dc bytes pc (.lookupswitch df ps) q pc') (hs : (ps.toList.zip (ps.toList.drop 1)).all (fun (a, next) => a.1 < next.1) = true) (hf : ps.find? (·.1 == x.toInt) = some (b, off)) (hy0 : 0 ≤ (pc : Int) + off) (hy : ((pc : Int) + off).toNat = yes)
    (G1 : Go w Q T yes L st) : Go w Q T pc L (.int x :: st) := by
  obtain ⟨p, l, e, R', s, m, args, below, meth, c, Z', k0⟩ := w
  obtain ⟨hx, hby, -⟩ := K
  obtain ⟨locs, X, -⟩ := H
  subst hy
  obtain ⟨s₂, o, g1, g2⟩ := G1
  exact ⟨s₂, o, X.lookupswitchHit hx (g := mkF m pc L (.int x :: st)) rfl rfl (by rw [hby]; exact d.1) hs hf hy0 _ g1, g2⟩
theorem go_lookup (K : Cx w R Z n0 own bytes mx rt nm) (H : At1 w T h k n) {x : Int32} {df off : Int} {ps : Array (Int × Int)} {q yes no : Nat} (d : Dc bytes pc (.lookupswitch df ps) q pc') (hs : (ps.toList.zip (ps.toList.drop 1)).all (fun (a, next) => a.1 < next.1) = true) (hall : ∀ p ∈ ps.toList, p.2 = off) (hy0 : 0 ≤ (pc : Int) + off) (hy : ((pc : Int) + off).toNat = yes) (hn0 : 0 ≤ (pc : Int) + df) (hn : ((pc : Int) + df).toNat = no)
    (G1 : x.toInt ∈ ps.toList.map (·.1) → Go w Q T yes L st) (G2 : x.toInt ∉ ps.toList.map (·.1) → Go w Q T no L st) : Go w Q T pc L (.int x :: st) := by
  obtain ⟨p, l, e, R', s, m, args, below, meth, c, Z', k0⟩ := w
  obtain ⟨hx, hby, -⟩ := K
  obtain ⟨locs, X, -⟩ := H
  subst hy hn
  cases hf : ps.find? (·.1 == x.toInt) with
  | none =>
    have : x.toInt ∉ ps.toList.map (·.1) := by
      intro hm
      obtain ⟨a, ha, e⟩ := List.mem_map.mp hm
      have := Array.find?_eq_none.mp hf a (Array.mem_toList_iff.mp ha)
      simp [e] at this
    obtain ⟨s₂, o, g1, g2⟩ := G2 this
    exact ⟨s₂, o, X.lookupswitchMiss hx (g := mkF m pc L (.int x :: st)) rfl rfl (by rw [hby]; exact d.1) hs hf hn0 _ g1, g2⟩
  | some a =>
    obtain ⟨b, off'⟩ := a
    have hm := Array.mem_toList_iff.mpr (Array.mem_of_find?_eq_some hf)
    have hb : b = x.toInt := by simpa using Array.find?_some hf
    obtain rfl : off' = off := hall _ hm
    obtain ⟨s₂, o, g1, g2⟩ := G1 (List.mem_map.mpr ⟨_, hm, hb⟩)
    exact ⟨s₂, o, X.lookupswitchHit hx (g := mkF m pc L (.int x :: st)) rfl rfl (by rw [hby]; exact d.1) hs hf hy0 _ g1, g2⟩
theorem con_back {l : Launch} {p : Program} {e : Env} {s : State} {args : Array Value} {below : List Frame} {a0 : Array Value} {y : MethodName} {yb : ByteArray} {ym : Nat} {yr : Option FieldType} {rm : Room} {as' : Array Value} {P : Option Value → Heap → Prop} {len W : Nat}
    (C : Con l Z y yb ym yr rm as' h n0 P) (hZ : Z.Warmed39 s.vm) (wc : (Cond.code y yb ym yr).before a0 Z = true) (wz : (Cond.initialized y.cls).before a0 Z = true) (hf : rm.frames + 1 ≤ R.frames) (hl : W + (ym + 11) + rm.locals ≤ R.locals) :
    Back l R p e below s args y len W (fun A a => a = as' ∧ A.U.heap = h ∧ A.cells + rm.cells ≤ R.cells ∧ A.slots + rm.slots ≤ R.slots)
      (fun A _ v B => ∃ Lc, (P v B.U.heap ∧ Fr n0 Lc) ∧ B.locs = A.locs ++ Lc ∧ B.cells = A.cells + rm.cells ∧ B.slots = A.slots + rm.slots) :=
  backOf (Q := fun v hh Lc => P v hh ∧ Fr n0 Lc) (C []) hZ wc wz hf hl
theorem at_size (K : Cx w R Z n0 own bytes mx rt nm) (H : At1 w T h k n) : n0 ≤ h.size := by
  obtain ⟨p, l, e, R', s, m, args, below, meth, c, Z', k0⟩ := w
  obtain ⟨hx, hby, hml, hown, hZ, hret, hnm, hlk, rfl, rfl, rfl, h00⟩ := K
  obtain ⟨locs, X, eT, N⟩ := H
  rw [← eT]; exact Nat.le_trans h00 X.same.2.1
theorem go_callS {a0 : Array Value} {idx : Nat} {y : MethodName} {yb : ByteArray} {ym : Nat} {yr : Option FieldType} {rm : Room} {P : Option Value → Heap → Prop} {ps : List FieldType} {rr : Option FieldType} (argsL : List Value)
    (K : Cx w R Z n0 own bytes mx rt nm) (H : At1 w T h k n) (d : Dc bytes pc (.invokestatic idx) 3 pc') (w1 : (Cond.methodLink own idx y).before a0 Z = true) (w2 : (Cond.static y).before a0 Z = true) (w3 : (Cond.initialized y.cls).before a0 Z = true) (w4 : (Cond.code y yb ym yr).before a0 Z = true)
    (hy : y.cls ≠ "java/lang/invoke/MethodHandle" ∧ y.cls ≠ "java/lang/invoke/VarHandle") (C : ∀ l, Con l Z y yb ym yr rm argsL.toArray h n0 P) (hd : parseMethodDescriptor y.desc = some ⟨ps, rr⟩) (hlen : argsL.length = ps.length) (hs : st = argsL.reverse ++ st')
    (hL : L.size = mx) (hf : rm.frames + 1 ≤ R.frames) {W : Nat} (hW : (st'.map fun v => v.category).sum = W) (hl : W + (ym + 11) + rm.locals ≤ R.locals) (hk : k + rm.cells ≤ R.cells) (hn : n + rm.slots ≤ R.slots)
    (G : ∀ T' h' v, At1 w T' h' (k + rm.cells) (n + rm.slots) → P v h' → Go w Q T' pc' L (v.toList ++ st')) : Go w Q T pc L st := by
  obtain ⟨p, l, e, R', s, m, args, below, meth, c, Z', k0⟩ := w
  obtain ⟨hx, hby, hml, hown, hZ, hret, hnm, hlk, rfl, rfl, rfl, h00⟩ := K
  obtain ⟨locs, X, eT, N⟩ := H
  obtain ⟨d1, rfl⟩ := d
  obtain ⟨v, vm₁, ⟨T', L1, k1, n1⟩, -, X', ⟨Lc, ⟨hQ, N'⟩, l1, y1, z1⟩, stp⟩ := Jvm.LawKit.callS X hx (y := y) hown (mvT hZ w1) (mvT hZ w2) (mvT hZ w3) (mvT hZ w4) hy (con_back (W := W) (C l) hZ w4 w3 hf hl) (g := mkF m pc L st) rfl (hL.trans hml.symm) (argsL := argsL) (rest := st') (lenOf hd hlen) hs (by show 2 * 0 + _ ≤ _; rw [hW]; omega) (by rw [hby]; exact d1) (fun _ _ => ⟨rfl, eT, hk, hn⟩)
  dsimp only [Pt.U, Pt.locs, Pt.cells, Pt.slots] at X' l1 y1 z1 stp hQ
  subst l1 y1 z1
  obtain ⟨s₂, o, g1, g2⟩ := G T' T'.heap v ⟨_, X', rfl, Fr.app N N'⟩ hQ
  exact ⟨s₂, o, stp _ g1, g2⟩
theorem go_callI {a0 : Array Value} {idx : Nat} {y : MethodName} {yb : ByteArray} {ym : Nat} {rm : Room} {P : Option Value → Heap → Prop} {ps : List FieldType} {rr : Option FieldType} {a : Addr} (argsL : List Value)
    (K : Cx w R Z n0 own bytes mx rt nm) (H : At1 w T h k n) (d : Dc bytes pc (.invokespecial idx) 3 pc') (hy1 : y.name = "<init>") (w1 : (Cond.methodLink own idx y).before a0 Z = true) (w2 : (Cond.instanceMethod y).before a0 Z = true) (w3 : (Cond.initialized y.cls).before a0 Z = true) (w4 : (Cond.code y yb ym none).before a0 Z = true)
    (hy : y.cls ≠ "java/lang/invoke/MethodHandle" ∧ y.cls ≠ "java/lang/invoke/VarHandle") (C : ∀ l, Con l Z y yb ym none rm (.ref a :: argsL).toArray h n0 P) (hd : parseMethodDescriptor y.desc = some ⟨ps, rr⟩) (hlen : argsL.length = ps.length) (hs : st = argsL.reverse ++ .ref a :: st')
    (hL : L.size = mx) (hf : rm.frames + 1 ≤ R.frames) {W : Nat} (hW : (st'.map fun v => v.category).sum = W) (hl : W + (ym + 11) + rm.locals ≤ R.locals) (hk : k + rm.cells ≤ R.cells) (hn : n + rm.slots ≤ R.slots)
    (G : ∀ T' h' v, At1 w T' h' (k + rm.cells) (n + rm.slots) → P v h' → Go w Q T' pc' L (v.toList ++ st')) : Go w Q T pc L st := by
  obtain ⟨p, l, e, R', s, m, args, below, meth, c, Z', k0⟩ := w
  obtain ⟨hx, hby, hml, hown, hZ, hret, hnm, hlk, rfl, rfl, rfl, h00⟩ := K
  obtain ⟨locs, X, eT, N⟩ := H
  obtain ⟨d1, rfl⟩ := d
  obtain ⟨v, vm₁, ⟨T', L1, k1, n1⟩, -, X', ⟨Lc, ⟨hQ, N'⟩, l1, y1, z1⟩, stp⟩ := X.specialBack hx (y := y) hy1 hown (mvT hZ w1) (mvT hZ w2) (mvT hZ w4) hy (con_back (W := W) (C l) hZ w4 w3 hf hl) (g := mkF m pc L st) rfl (hL.trans hml.symm) (Steps.refl _) (a := a) (argsL := argsL) (rest := st') (lenOf hd hlen) hs (by show 2 * 0 + _ ≤ _; rw [hW]; omega) (by rw [hby]; exact d1) (fun _ _ => ⟨rfl, eT, hk, hn⟩)
  dsimp only [Pt.U, Pt.locs, Pt.cells, Pt.slots] at X' l1 y1 z1 stp hQ
  subst l1 y1 z1
  obtain ⟨s₂, o, g1, g2⟩ := G T' T'.heap v ⟨_, X', rfl, Fr.app N N'⟩ hQ
  exact ⟨s₂, o, stp.trans g1, g2⟩
theorem go_callV {a0 : Array Value} {idx : Nat} {y z : MethodName} {yb : ByteArray} {ym : Nat} {yr : Option FieldType} {rm : Room} {P : Option Value → Heap → Prop} {ps : List FieldType} {rr : Option FieldType} {a : Addr} {CC : String} (argsL : List Value)
    (K : Cx w R Z n0 own bytes mx rt nm) (H : At1 w T h k n) (d : Dc bytes pc (.invokevirtual idx) 3 pc') (E : Exa Z h a CC) (w1 : (Cond.methodLink own idx y).before a0 Z = true) (wd : (Cond.declares y).before a0 Z = true) (hnf : ∀ s : State, Z.Warmed39 s.vm → NotFace s y) (ws : (Cond.selects CC y z).before a0 Z = true) (w2 : (Cond.instanceMethod z).before a0 Z = true) (w3 : (Cond.initialized z.cls).before a0 Z = true) (w4 : (Cond.code z yb ym yr).before a0 Z = true)
    (hy : y.cls ≠ "java/lang/invoke/MethodHandle" ∧ y.cls ≠ "java/lang/invoke/VarHandle") (C : ∀ l, Con l Z z yb ym yr rm (.ref a :: argsL).toArray h n0 P) (hd : parseMethodDescriptor y.desc = some ⟨ps, rr⟩) (hlen : argsL.length = ps.length) (hs : st = argsL.reverse ++ .ref a :: st')
    (hL : L.size = mx) (hf : rm.frames + 1 ≤ R.frames) {W : Nat} (hW : (st'.map fun v => v.category).sum = W) (hl : W + (ym + 11) + rm.locals ≤ R.locals) (hk : k + rm.cells ≤ R.cells) (hn : n + rm.slots ≤ R.slots)
    (G : ∀ T' h' v, At1 w T' h' (k + rm.cells) (n + rm.slots) → P v h' → Go w Q T' pc' L (v.toList ++ st')) : Go w Q T pc L st := by
  obtain ⟨p, l, e, R', s, m, args, below, meth, c, Z', k0⟩ := w
  obtain ⟨hx, hby, hml, hown, hZ, hret, hnm, hlk, rfl, rfl, rfl, h00⟩ := K
  obtain ⟨locs, X, eT, N⟩ := H
  obtain ⟨d1, rfl⟩ := d
  obtain ⟨cq, kq, q1, q2, q3⟩ := isOf hZ eT E
  obtain ⟨v, vm₁, ⟨T', L1, k1, n1⟩, -, X', ⟨Lc, ⟨hQ, N'⟩, l1, y1, z1⟩, stp⟩ := X.virtualBack hx (y := y) (z := z) hown (mvT hZ w1) (mvT hZ wd) (hnf s hZ) (mvT hZ ws) (mvT hZ w2) hy (con_back (W := W) (C l) hZ w4 w3 hf hl) q1 q3 (g := mkF m pc L st) rfl (hL.trans hml.symm) (Steps.refl _) (argsL := argsL) (rest := st') (lenOf hd hlen) hs (by show 2 * 0 + _ ≤ _; rw [hW]; omega) (by rw [hby]; exact d1) (fun _ _ => ⟨rfl, eT, hk, hn⟩)
  dsimp only [Pt.U, Pt.locs, Pt.cells, Pt.slots] at X' l1 y1 z1 stp hQ
  subst l1 y1 z1
  obtain ⟨s₂, o, g1, g2⟩ := G T' T'.heap v ⟨_, X', rfl, Fr.app N N'⟩ hQ
  exact ⟨s₂, o, stp.trans g1, g2⟩
theorem go_callP {a0 : Array Value} {idx : Nat} {y : MethodName} {yb : ByteArray} {ym : Nat} {yr : Option FieldType} {rm : Room} {P : Option Value → Heap → Prop} {ps : List FieldType} {rr : Option FieldType} {a : Addr} {CC : String} (argsL : List Value)
    (K : Cx w R Z n0 own bytes mx rt nm) (H : At1 w T h k n) (d : Dc bytes pc (.invokevirtual idx) 3 pc') (E : Exa Z h a CC) (w1 : (Cond.methodLink own idx y).before a0 Z = true) (w2 : (Cond.instanceMethod y).before a0 Z = true) (ws : (Cond.selects y.cls y y).before a0 Z = true) (wp : (Cond.privateMethod y).before a0 Z = true) (w3 : (Cond.initialized y.cls).before a0 Z = true) (w4 : (Cond.code y yb ym yr).before a0 Z = true)
    (hy : y.cls ≠ "java/lang/invoke/MethodHandle" ∧ y.cls ≠ "java/lang/invoke/VarHandle") (C : ∀ l, Con l Z y yb ym yr rm (.ref a :: argsL).toArray h n0 P) (hd : parseMethodDescriptor y.desc = some ⟨ps, rr⟩) (hlen : argsL.length = ps.length) (hs : st = argsL.reverse ++ .ref a :: st')
    (hL : L.size = mx) (hf : rm.frames + 1 ≤ R.frames) {W : Nat} (hW : (st'.map fun v => v.category).sum = W) (hl : W + (ym + 11) + rm.locals ≤ R.locals) (hk : k + rm.cells ≤ R.cells) (hn : n + rm.slots ≤ R.slots)
    (G : ∀ T' h' v, At1 w T' h' (k + rm.cells) (n + rm.slots) → P v h' → Go w Q T' pc' L (v.toList ++ st')) : Go w Q T pc L st := by
  obtain ⟨p, l, e, R', s, m, args, below, meth, c, Z', k0⟩ := w
  obtain ⟨hx, hby, hml, hown, hZ, hret, hnm, hlk, rfl, rfl, rfl, h00⟩ := K
  obtain ⟨locs, X, eT, N⟩ := H
  obtain ⟨d1, rfl⟩ := d
  obtain ⟨cq, q1, q2⟩ := E.cell
  obtain ⟨v, vm₁, ⟨T', L1, k1, n1⟩, -, X', ⟨Lc, ⟨hQ, N'⟩, l1, y1, z1⟩, stp⟩ := X.privateBack hx (y := y) hown (mvT hZ w1) (mvT hZ w2) (mvT hZ ws) (Cond.privateMethod_at (mvP hZ wp (args := #[]))) (mvT hZ w4) hy (con_back (W := W) (C l) hZ w4 w3 hf hl) (g := mkF m pc L st) rfl (hL.trans hml.symm) (Steps.refl _) (a := a) (by rw [eT]; exact q1) q2 (argsL := argsL) (rest := st') (lenOf hd hlen) hs (by show 2 * 0 + _ ≤ _; rw [hW]; omega) (by rw [hby]; exact d1) (fun _ _ => ⟨rfl, eT, hk, hn⟩)
  dsimp only [Pt.U, Pt.locs, Pt.cells, Pt.slots] at X' l1 y1 z1 stp hQ
  subst l1 y1 z1
  obtain ⟨s₂, o, g1, g2⟩ := G T' T'.heap v ⟨_, X', rfl, Fr.app N N'⟩ hQ
  exact ⟨s₂, o, stp.trans g1, g2⟩
theorem go_callF {a0 : Array Value} {idx cnt : Nat} {y z : MethodName} {yb : ByteArray} {ym : Nat} {yr : Option FieldType} {rm : Room} {P : Option Value → Heap → Prop} {ps : List FieldType} {rr : Option FieldType} {a : Addr} {CC : String} (argsL : List Value)
    (K : Cx w R Z n0 own bytes mx rt nm) (H : At1 w T h k n) (d : Dc bytes pc (.invokeinterface idx cnt) 5 pc') (E : Exa Z h a CC) (w1 : (Cond.methodLink own idx y).before a0 Z = true) (wd : (Cond.declares y).before a0 Z = true) (wf : (Cond.interfaceMethod y.cls y.cls y.name y.desc).before a0 Z = true) (ws : (Cond.selects CC y z).before a0 Z = true) (w2 : (Cond.instanceMethod z).before a0 Z = true) (wp : (Cond.publicMethod z).before a0 Z = true) (wu : (Cond.unhidden CC y.name y.desc).before a0 Z = true) (wc : (Cond.castable CC y.cls).before a0 Z = true) (w3 : (Cond.initialized z.cls).before a0 Z = true) (w4 : (Cond.code z yb ym yr).before a0 Z = true)
    (hy : y.cls ≠ "java/lang/invoke/MethodHandle" ∧ y.cls ≠ "java/lang/invoke/VarHandle") (C : ∀ l, Con l Z z yb ym yr rm (.ref a :: argsL).toArray h n0 P) (hd : parseMethodDescriptor y.desc = some ⟨ps, rr⟩) (hlen : argsL.length = ps.length) (hs : st = argsL.reverse ++ .ref a :: st')
    (hL : L.size = mx) (hf : rm.frames + 1 ≤ R.frames) {W : Nat} (hW : (st'.map fun v => v.category).sum = W) (hl : W + (ym + 11) + rm.locals ≤ R.locals) (hk : k + rm.cells ≤ R.cells) (hn : n + rm.slots ≤ R.slots)
    (G : ∀ T' h' v, At1 w T' h' (k + rm.cells) (n + rm.slots) → P v h' → Go w Q T' pc' L (v.toList ++ st')) : Go w Q T pc L st := by
  obtain ⟨p, l, e, R', s, m, args, below, meth, c, Z', k0⟩ := w
  obtain ⟨hx, hby, hml, hown, hZ, hret, hnm, hlk, rfl, rfl, rfl, h00⟩ := K
  obtain ⟨locs, X, eT, N⟩ := H
  obtain ⟨d1, rfl⟩ := d
  obtain ⟨cq, kq, q1, q2, q3⟩ := isOf hZ eT E
  obtain ⟨v, vm₁, ⟨T', L1, k1, n1⟩, -, X', ⟨Lc, ⟨hQ, N'⟩, l1, y1, z1⟩, stp⟩ := X.interfaceBack hx (xi := y) (y := z) hown (mvT hZ w1) (mvT hZ wd) (mvT hZ wf (by simp [Cond.onTables, Cond.keepsFace, Cond.keeps, Cond.steady, Cond.faceAtom, hy.1, hy.2])) (mvT hZ ws) (mvT hZ w2) (mvT hZ wp) (mvT hZ wu) (mvT hZ wc) hy (con_back (W := W) (C l) hZ w4 w3 hf hl) q1 q2 q3 (g := mkF m pc L st) rfl (hL.trans hml.symm) (Steps.refl _) (argsL := argsL) (rest := st') (lenOf hd hlen) hs (by show 2 * 0 + _ ≤ _; rw [hW]; omega) (by rw [hby]; exact d1) (fun _ _ => ⟨rfl, eT, hk, hn⟩)
  dsimp only [Pt.U, Pt.locs, Pt.cells, Pt.slots] at X' l1 y1 z1 stp hQ
  subst l1 y1 z1
  obtain ⟨s₂, o, g1, g2⟩ := G T' T'.heap v ⟨_, X', rfl, Fr.app N N'⟩ hQ
  exact ⟨s₂, o, stp.trans g1, g2⟩
theorem ref_at {a0 a1 : Array Value} {U : State} {idx : Nat} {y : MethodName} (hU : Z.Warmed39 U.vm) (hy : y.cls ≠ "java/lang/invoke/MethodHandle" ∧ y.cls ≠ "java/lang/invoke/VarHandle") (w2 : (Cond.instanceMethod y).before a0 Z = true) (w1 : (Cond.methodRef own idx y).before a0 Z = true) : (Cond.methodRef own idx y).before a1 U = true := by
  obtain ⟨mk, _, hn, -⟩ := Cond.instanceMethod_spec w2
  have q := Cond.methodRef_warmed39 hU hn hy w1
  simp only [Cond.before, Cond.holds, Cond.value] at q ⊢
  exact q
theorem go_callIR {a0 : Array Value} {idx : Nat} {y : MethodName} {yb : ByteArray} {ym : Nat} {rm : Room} {P : Option Value → Heap → Prop} {ps : List FieldType} {rr : Option FieldType} {a : Addr} (argsL : List Value)
    (K : Cx w R Z n0 own bytes mx rt nm) (H : At1 w T h k n) (d : Dc bytes pc (.invokespecial idx) 3 pc') (hy1 : y.name = "<init>") (w1 : (Cond.methodRef own idx y).before a0 Z = true) (w2 : (Cond.instanceMethod y).before a0 Z = true) (w3 : (Cond.initialized y.cls).before a0 Z = true) (w4 : (Cond.code y yb ym none).before a0 Z = true)
    (hy : y.cls ≠ "java/lang/invoke/MethodHandle" ∧ y.cls ≠ "java/lang/invoke/VarHandle") (C : ∀ l, Con l Z y yb ym none rm (.ref a :: argsL).toArray h n0 P) (hd : parseMethodDescriptor y.desc = some ⟨ps, rr⟩) (hlen : argsL.length = ps.length) (hs : st = argsL.reverse ++ .ref a :: st')
    (hL : L.size = mx) (hf : rm.frames + 1 ≤ R.frames) {W : Nat} (hW : (st'.map fun v => v.category).sum = W) (hl : W + (ym + 11) + rm.locals ≤ R.locals) (hk : k + rm.cells ≤ R.cells) (hn : n + rm.slots ≤ R.slots)
    (G : ∀ T' h' v, At1 w T' h' (k + rm.cells) (n + rm.slots) → P v h' → Go w Q T' pc' L (v.toList ++ st')) : Go w Q T pc L st := by
  obtain ⟨p, l, e, R', s, m, args, below, meth, c, Z', k0⟩ := w
  obtain ⟨hx, hby, hml, hown, hZ, hret, hnm, hlk, rfl, rfl, rfl, h00⟩ := K
  obtain ⟨locs, X, eT, N⟩ := H
  obtain ⟨d1, rfl⟩ := d
  have S : SCall p l e R' s m args below meth c idx y := SCall.of_ready hx hy1 (mvT hZ w2) (mvT hZ w4) (fun U r hU hnr => by
    have hA := hU.alike
    have hUZ : Z'.Warmed39 U.vm := wtrans hZ hU
    have hnU : U.methodNamed? y = some r := by
      have q : (s.setVm U.vm).methodNamed? y = some r := by rw [State.methodNamed?_setVm hA]; exact hnr
      exact q
    have hoU : U.vm.findClass own = some m.cls := by rw [hA.findClass]; exact hown
    obtain ⟨m', c', e1, e2, e3, e4⟩ := Cond.methodRef_named (first := U) (o := none) (idx := []) (args := args) e hoU (ref_at hUZ hy w2 w1)
    have e5 : U.methodFound? y.cls y.name y.desc = some r := State.methodFound?_of_named hnU hy
    cases e1.symm.trans e5
    cases e3.symm.trans (findClass_of_methodNamed hnU)
    exact ⟨e4, e2⟩)
  obtain ⟨v, vm₁, ⟨T', L1, k1, n1⟩, -, X', ⟨Lc, ⟨hQ, N'⟩, l1, y1, z1⟩, stp⟩ := S X (con_back (W := W) (C l) hZ w4 w3 hf hl) (g := mkF m pc L st) rfl (hL.trans hml.symm) (Steps.refl _) (a := a) (argsL := argsL) (rest := st') (lenOf hd hlen) hs (by show 2 * 0 + _ ≤ _; rw [hW]; omega) (by rw [hby]; exact d1) (fun _ _ => ⟨rfl, eT, hk, hn⟩)
  dsimp only [Pt.U, Pt.locs, Pt.cells, Pt.slots] at X' l1 y1 z1 stp hQ
  subst l1 y1 z1
  obtain ⟨s₂, o, g1, g2⟩ := G T' T'.heap v ⟨_, X', rfl, Fr.app N N'⟩ hQ
  exact ⟨s₂, o, stp.trans g1, g2⟩
theorem sel_priv {a0 : Array Value} {y : MethodName} {j : Nat} (wi : (Cond.instantiable y.cls j).before a0 Z = true) (wp : (Cond.privateMethod y).before a0 Z = true) (w2 : (Cond.instanceMethod y).before a0 Z = true) (hy : y.cls ≠ "java/lang/invoke/MethodHandle" ∧ y.cls ≠ "java/lang/invoke/VarHandle") : (Cond.selects y.cls y y).before a0 Z = true := by
  obtain ⟨c, k, h1, h2, h3, h4, -⟩ := Cond.instantiable_spec wi
  exact selects_self_of_private h1 h2 (Bool.or_eq_false_iff.mp h4).1 (Cond.privateMethod_at wp) w2 hy
theorem nf_sel {a0 : Array Value} {CC : String} {y : MethodName} (ws : (Cond.selects CC y y).before a0 Z = true) : ∀ s : State, Z.Warmed39 s.vm → NotFace s y := fun s hZ => notFace_of_selects (args := #[]) (mvT hZ ws)
theorem own_comes {Post : Tables → Env → Array Value → State → Outcome → State → Prop} {ck sk : Nat} (hpost : ∀ tb e args s v u, (limb_1_1.after args s (.returned v) u = true ∧ limb_1_2.after args s (.returned v) u = true) → FrameEnd s (.returned v) u (Jvm.fieldLocs frame_1_writes args s ++ Jvm.arrayLocs frame_1_arrays args s ++ Jvm.staticLocs frame_1_statics s) ck sk → Post tb e args s (.returned v) u) (h1 : room_1.cells ≤ ck) (h2 : room_1.slots ≤ sk)
    (hl : ∀ (l : Launch) (tb : Tables) (e : Env) (s : State) (args : Array Value), heapFits s = true → rest_1 tb e args s → (Jvm.Cond.and given_1 narrow_1).value args s none s [] = some true → (∀ d ∈ tables_1, d.before args s = true) → Con l s x code maxLocals ret room_1 args s.heap s.heap.size (RI fun z _ => z = 1)) :
    ArmFor flags0 classFile x code maxLocals ret World_1 tables_1 room_1 Calls_1 rest_1 Pre_1 Post := by
  intro l hfl _ _ p e ha hc hk s m args below hf hA hF happ hP
  obtain ⟨hcalls, hrest, hpre⟩ := hP
  obtain ⟨-, -, -, hnamed, -, -, -, hat⟩ := (Spec.applies_iff hf).mp happ
  have hg := Cond.before_iff.mp (show (Jvm.Cond.and given_1 narrow_1).before args s = true from hpre)
  have hw := fun d (hd : d ∈ tables_1) => atoms_spec (ws := Jvm.Cond.code x code maxLocals ret :: tables_1) hat d (List.mem_cons_of_mem _ hd)
  obtain ⟨n, o, g1, g2, g3, v, L, rfl, ⟨⟨z, rfl, rfl⟩, N⟩, hq⟩ := hl l _ _ s args hF hrest hg hw tables_1 p e ha hc hk s m _ below hf ((Spec.applies_iff_loose hf).mp happ).1 ⟨rfl, State.Warmed39.refl s, rfl⟩ trivial
  exact ⟨n, _, g1, g2, g3, hpost _ _ _ _ _ _ ⟨Cond.after_iff.mpr rfl, Cond.after_iff.mpr (eq_i res_at (Term.int_eval (1)) rfl)⟩ ⟨hq.1, hq.2.1, (hq.2.2.sift fun y hy => Or.inr (N y hy)).mono h1 h2⟩⟩
end Own
end Jvm.Pilot.@@N@@
namespace Jvm.Pilot.@@N@@
open Jvm Jvm.ClassFile Sem Op Lib Jvm.Free Jvm.Stand Jvm.LawKit Jvm.RoadKit Bundle Jvm.Pilot.@@N@@.Jvm.D
def expS (b0 b1 b2 b3 av : Int) : Int :=
  if b0 < 128 then b0
  else if 194 ≤ b0 ∧ b0 ≤ 223 then (if av < 2 ∨ b1 < 128 ∨ 191 < b1 then -1 else (b0 - 192) * 64 + (b1 - 128))
  else if 224 ≤ b0 ∧ b0 ≤ 239 then (if av < 3 ∨ (b0 = 224 ∧ b1 < 160) ∨ (b0 = 237 ∧ 159 < b1) ∨ b1 < 128 ∨ 191 < b1 ∨ b2 < 128 ∨ 191 < b2 then -1 else (b0 - 224) * 4096 + (b1 - 128) * 64 + (b2 - 128))
  else if 240 ≤ b0 ∧ b0 ≤ 244 then (if av < 4 ∨ (b0 = 240 ∧ b1 < 144) ∨ (b0 = 244 ∧ 143 < b1) ∨ b1 < 128 ∨ 191 < b1 ∨ b2 < 128 ∨ 191 < b2 ∨ b3 < 128 ∨ 191 < b3 then -1 else (b0 - 240) * 262144 + (b1 - 128) * 4096 + (b2 - 128) * 64 + (b3 - 128))
  else -1
theorem ex1 {b0 b1 b2 b3 av : Int} (h : b0 < 128) : expS b0 b1 b2 b3 av = b0 := by unfold expS; rw [if_pos h]
theorem ex5 {b0 b1 b2 b3 av : Int} (h : 128 ≤ b0) (g : b0 < 194 ∨ 244 < b0) : expS b0 b1 b2 b3 av = -1 := by unfold expS; rw [if_neg (by omega), if_neg (by omega), if_neg (by omega), if_neg (by omega)]
theorem ex2 {b0 b1 b2 b3 av : Int} (h : 192 ≤ b0) (g : b0 ≤ 223) : expS b0 b1 b2 b3 av = if b0 < 194 then -1 else if av < 2 ∨ b1 < 128 ∨ 191 < b1 then -1 else (b0 - 192) * 64 + (b1 - 128) := by
  by_cases q : b0 < 194
  · rw [if_pos q]; exact ex5 (by omega) (Or.inl q)
  · unfold expS; rw [if_neg (by omega), if_pos (by omega), if_neg q]
theorem ex3 {b0 b1 b2 b3 av : Int} (h : 224 ≤ b0) (g : b0 ≤ 239) : expS b0 b1 b2 b3 av = if av < 3 ∨ (b0 = 224 ∧ b1 < 160) ∨ (b0 = 237 ∧ 159 < b1) ∨ b1 < 128 ∨ 191 < b1 ∨ b2 < 128 ∨ 191 < b2 then -1 else (b0 - 224) * 4096 + (b1 - 128) * 64 + (b2 - 128) := by unfold expS; rw [if_neg (by omega), if_neg (by omega), if_pos (by omega)]
theorem ex4 {b0 b1 b2 b3 av : Int} (h : 240 ≤ b0) (g : b0 ≤ 255) : expS b0 b1 b2 b3 av = if 244 < b0 then -1 else if av < 4 ∨ (b0 = 240 ∧ b1 < 144) ∨ (b0 = 244 ∧ 143 < b1) ∨ b1 < 128 ∨ 191 < b1 ∨ b2 < 128 ∨ 191 < b2 ∨ b3 < 128 ∨ 191 < b3 then -1 else (b0 - 240) * 262144 + (b1 - 128) * 4096 + (b2 - 128) * 64 + (b3 - 128) := by
  by_cases q : 244 < b0
  · rw [if_pos q]; exact ex5 (by omega) (Or.inr q)
  · unfold expS; rw [if_neg (by omega), if_neg (by omega), if_neg (by omega), if_pos (by omega), if_neg q]
theorem fin_of {v : Int32} {N : Nat} (h0 : 0 ≤ v.toInt) (h1 : v.toInt < N) (hN : N ≤ 2 ^ 31) : ∃ j : Fin N, v = Int32.ofNat j.val := by
  refine ⟨⟨v.toInt.toNat, by omega⟩, Int32.toInt_inj.mp ?_⟩
  rw [Int32.toInt_ofNat_of_lt (by show v.toInt.toNat < 2 ^ 31; omega)]
  exact (Int.toNat_of_nonneg h0).symm
theorem a224 : ∀ j : Fin 256, decide (Int32.ofNat j.val &&& 224 = 192) = decide (192 ≤ (Int32.ofNat j.val).toInt ∧ (Int32.ofNat j.val).toInt < 224) := by decide +kernel
theorem a240 : ∀ j : Fin 256, decide (Int32.ofNat j.val &&& 240 = 224) = decide (224 ≤ (Int32.ofNat j.val).toInt ∧ (Int32.ofNat j.val).toInt < 240) := by decide +kernel
theorem a248 : ∀ j : Fin 256, decide (Int32.ofNat j.val &&& 248 = 240) = decide (240 ≤ (Int32.ofNat j.val).toInt ∧ (Int32.ofNat j.val).toInt < 248) := by decide +kernel
theorem a192 : ∀ j : Fin 256, decide (Int32.ofNat j.val &&& 192 = 128) = decide (128 ≤ (Int32.ofNat j.val).toInt ∧ (Int32.ofNat j.val).toInt < 192) := by decide +kernel
theorem and224 {v x : Int32} (e : x = v &&& 224) (h0 : 0 ≤ v.toInt) (h1 : v.toInt < 256) : x = 192 ↔ (192 ≤ v.toInt ∧ v.toInt < 224) := by
  obtain ⟨j, rfl⟩ := fin_of h0 h1 (by decide); rw [e]; exact decide_eq_decide.mp (a224 j)
theorem and240 {v x : Int32} (e : x = v &&& 240) (h0 : 0 ≤ v.toInt) (h1 : v.toInt < 256) : x = 224 ↔ (224 ≤ v.toInt ∧ v.toInt < 240) := by
  obtain ⟨j, rfl⟩ := fin_of h0 h1 (by decide); rw [e]; exact decide_eq_decide.mp (a240 j)
theorem and248 {v x : Int32} (e : x = v &&& 248) (h0 : 0 ≤ v.toInt) (h1 : v.toInt < 256) : x = 240 ↔ (240 ≤ v.toInt ∧ v.toInt < 248) := by
  obtain ⟨j, rfl⟩ := fin_of h0 h1 (by decide); rw [e]; exact decide_eq_decide.mp (a248 j)
theorem and192 {v x : Int32} (e : x = v &&& 192) (h0 : 0 ≤ v.toInt) (h1 : v.toInt < 256) : x = 128 ↔ (128 ≤ v.toInt ∧ v.toInt < 192) := by
  obtain ⟨j, rfl⟩ := fin_of h0 h1 (by decide); rw [e]; exact decide_eq_decide.mp (a192 j)
theorem or_low {x y z : Int32} (e : z = x ||| y) (hx : 0 ≤ x.toInt) (hm : x.toInt % 64 = 0) (hy : 0 ≤ y.toInt) (hy2 : y.toInt < 64) (hb : x.toInt < 2147483584) : z.toInt = x.toInt + y.toInt := by
  have nx : x.toBitVec.toNat = x.toInt.toNat := by
    have h : x.toInt = x.toBitVec.toInt := rfl
    have c := BitVec.toInt_eq_toNat_cond x.toBitVec; have := x.toBitVec.isLt; split at c <;> omega
  have ny : y.toBitVec.toNat = y.toInt.toNat := by
    have h : y.toInt = y.toBitVec.toInt := rfl
    have c := BitVec.toInt_eq_toNat_cond y.toBitVec; have := y.toBitVec.isLt; split at c <;> omega
  have nz : z.toBitVec.toNat = x.toInt.toNat + y.toInt.toNat := by
    rw [e]; show (x.toBitVec ||| y.toBitVec).toNat = _
    rw [BitVec.toNat_or, nx, ny]
    have q := Nat.two_pow_add_eq_or_of_lt (i := 6) (b := y.toInt.toNat) (by omega) (x.toInt.toNat / 64)
    rw [show 2 ^ 6 * (x.toInt.toNat / 64) = x.toInt.toNat by omega] at q
    exact q.symm
  have h : z.toInt = z.toBitVec.toInt := rfl
  rw [h, BitVec.toInt_eq_toNat_cond, nz, if_pos (by omega)]; omega
theorem d0_0 : Dc method_3_code 0 (.iload_n 0) 1 1 := ⟨by decide +kernel, rfl⟩
theorem d0_1 : Dc method_3_code 1 (.sipush 128) 3 4 := ⟨by decide +kernel, rfl⟩
theorem d0_4 : Jp method_3_code 4 (.if_icmp .lt) 18 7 := ⟨14, by decide +kernel, by decide, by decide, rfl⟩
theorem d0_7 : Dc method_3_code 7 (.iload_n 0) 1 8 := ⟨by decide +kernel, rfl⟩
theorem d0_8 : Dc method_3_code 8 (.sipush 191) 3 11 := ⟨by decide +kernel, rfl⟩
theorem d0_11 : Jp method_3_code 11 (.if_icmp .gt) 18 14 := ⟨7, by decide +kernel, by decide, by decide, rfl⟩
theorem d0_14 : Dc method_3_code 14 (.iconst 1) 1 15 := ⟨by decide +kernel, rfl⟩
theorem d0_15 : Jp method_3_code 15 .goto 19 18 := ⟨4, by decide +kernel, by decide, by decide, rfl⟩
theorem d0_18 : Dc method_3_code 18 (.iconst 0) 1 19 := ⟨by decide +kernel, rfl⟩
theorem d0_19 : Dc method_3_code 19 .ireturn 1 20 := ⟨by decide +kernel, rfl⟩
theorem d1_0 : Dc method_4_code 0 (.iload_n 0) 1 1 := ⟨by decide +kernel, rfl⟩
theorem d1_1 : Dc method_4_code 1 (.sipush 128) 3 4 := ⟨by decide +kernel, rfl⟩
theorem d1_4 : Jp method_4_code 4 (.if_icmp .ge) 9 7 := ⟨5, by decide +kernel, by decide, by decide, rfl⟩
theorem d1_7 : Dc method_4_code 7 (.iload_n 0) 1 8 := ⟨by decide +kernel, rfl⟩
theorem d1_8 : Dc method_4_code 8 .ireturn 1 9 := ⟨by decide +kernel, rfl⟩
theorem d1_9 : Dc method_4_code 9 (.iload_n 0) 1 10 := ⟨by decide +kernel, rfl⟩
theorem d1_10 : Dc method_4_code 10 (.sipush 194) 3 13 := ⟨by decide +kernel, rfl⟩
theorem d1_13 : Jp method_4_code 13 (.if_icmp .lt) 53 16 := ⟨40, by decide +kernel, by decide, by decide, rfl⟩
theorem d1_16 : Dc method_4_code 16 (.iload_n 0) 1 17 := ⟨by decide +kernel, rfl⟩
theorem d1_17 : Dc method_4_code 17 (.sipush 223) 3 20 := ⟨by decide +kernel, rfl⟩
theorem d1_20 : Jp method_4_code 20 (.if_icmp .gt) 53 23 := ⟨33, by decide +kernel, by decide, by decide, rfl⟩
theorem d1_23 : Dc method_4_code 23 (.iload 4) 2 25 := ⟨by decide +kernel, rfl⟩
theorem d1_25 : Dc method_4_code 25 (.iconst 2) 1 26 := ⟨by decide +kernel, rfl⟩
theorem d1_26 : Jp method_4_code 26 (.if_icmp .lt) 36 29 := ⟨10, by decide +kernel, by decide, by decide, rfl⟩
theorem d1_29 : Dc method_4_code 29 (.iload_n 1) 1 30 := ⟨by decide +kernel, rfl⟩
theorem d1_30 : Dc method_4_code 30 (.invokestatic 19) 3 33 := ⟨by decide +kernel, rfl⟩
theorem d1_33 : Jp method_4_code 33 (.ifCond .ne) 38 36 := ⟨5, by decide +kernel, by decide, by decide, rfl⟩
theorem d1_36 : Dc method_4_code 36 (.iconst (-1)) 1 37 := ⟨by decide +kernel, rfl⟩
theorem d1_37 : Dc method_4_code 37 .ireturn 1 38 := ⟨by decide +kernel, rfl⟩
theorem d1_38 : Dc method_4_code 38 (.iload_n 0) 1 39 := ⟨by decide +kernel, rfl⟩
theorem d1_39 : Dc method_4_code 39 (.sipush 192) 3 42 := ⟨by decide +kernel, rfl⟩
theorem d1_42 : Dc method_4_code 42 .isub 1 43 := ⟨by decide +kernel, rfl⟩
theorem d1_43 : Dc method_4_code 43 (.bipush 64) 2 45 := ⟨by decide +kernel, rfl⟩
theorem d1_45 : Dc method_4_code 45 .imul 1 46 := ⟨by decide +kernel, rfl⟩
theorem d1_46 : Dc method_4_code 46 (.iload_n 1) 1 47 := ⟨by decide +kernel, rfl⟩
theorem d1_47 : Dc method_4_code 47 (.sipush 128) 3 50 := ⟨by decide +kernel, rfl⟩
theorem d1_50 : Dc method_4_code 50 .isub 1 51 := ⟨by decide +kernel, rfl⟩
theorem d1_51 : Dc method_4_code 51 .iadd 1 52 := ⟨by decide +kernel, rfl⟩
theorem d1_52 : Dc method_4_code 52 .ireturn 1 53 := ⟨by decide +kernel, rfl⟩
theorem d1_53 : Dc method_4_code 53 (.iload_n 0) 1 54 := ⟨by decide +kernel, rfl⟩
theorem d1_54 : Dc method_4_code 54 (.sipush 224) 3 57 := ⟨by decide +kernel, rfl⟩
theorem d1_57 : Jp method_4_code 57 (.if_icmp .lt) 155 60 := ⟨98, by decide +kernel, by decide, by decide, rfl⟩
theorem d1_60 : Dc method_4_code 60 (.iload_n 0) 1 61 := ⟨by decide +kernel, rfl⟩
theorem d1_61 : Dc method_4_code 61 (.sipush 239) 3 64 := ⟨by decide +kernel, rfl⟩
theorem d1_64 : Jp method_4_code 64 (.if_icmp .gt) 155 67 := ⟨91, by decide +kernel, by decide, by decide, rfl⟩
theorem d1_67 : Dc method_4_code 67 (.iload_n 0) 1 68 := ⟨by decide +kernel, rfl⟩
theorem d1_68 : Dc method_4_code 68 (.sipush 224) 3 71 := ⟨by decide +kernel, rfl⟩
theorem d1_71 : Jp method_4_code 71 (.if_icmp .ne) 80 74 := ⟨9, by decide +kernel, by decide, by decide, rfl⟩
theorem d1_74 : Dc method_4_code 74 (.sipush 160) 3 77 := ⟨by decide +kernel, rfl⟩
theorem d1_77 : Jp method_4_code 77 .goto 83 80 := ⟨6, by decide +kernel, by decide, by decide, rfl⟩
theorem d1_80 : Dc method_4_code 80 (.sipush 128) 3 83 := ⟨by decide +kernel, rfl⟩
theorem d1_83 : Dc method_4_code 83 (.istore 5) 2 85 := ⟨by decide +kernel, rfl⟩
theorem d1_85 : Dc method_4_code 85 (.iload_n 0) 1 86 := ⟨by decide +kernel, rfl⟩
theorem d1_86 : Dc method_4_code 86 (.sipush 237) 3 89 := ⟨by decide +kernel, rfl⟩
theorem d1_89 : Jp method_4_code 89 (.if_icmp .ne) 98 92 := ⟨9, by decide +kernel, by decide, by decide, rfl⟩
theorem d1_92 : Dc method_4_code 92 (.sipush 159) 3 95 := ⟨by decide +kernel, rfl⟩
theorem d1_95 : Jp method_4_code 95 .goto 101 98 := ⟨6, by decide +kernel, by decide, by decide, rfl⟩
theorem d1_98 : Dc method_4_code 98 (.sipush 191) 3 101 := ⟨by decide +kernel, rfl⟩
theorem d1_101 : Dc method_4_code 101 (.istore 6) 2 103 := ⟨by decide +kernel, rfl⟩
theorem d1_103 : Dc method_4_code 103 (.iload 4) 2 105 := ⟨by decide +kernel, rfl⟩
theorem d1_105 : Dc method_4_code 105 (.iconst 3) 1 106 := ⟨by decide +kernel, rfl⟩
theorem d1_106 : Jp method_4_code 106 (.if_icmp .lt) 128 109 := ⟨22, by decide +kernel, by decide, by decide, rfl⟩
theorem d1_109 : Dc method_4_code 109 (.iload_n 1) 1 110 := ⟨by decide +kernel, rfl⟩
theorem d1_110 : Dc method_4_code 110 (.iload 5) 2 112 := ⟨by decide +kernel, rfl⟩
theorem d1_112 : Jp method_4_code 112 (.if_icmp .lt) 128 115 := ⟨16, by decide +kernel, by decide, by decide, rfl⟩
theorem d1_115 : Dc method_4_code 115 (.iload_n 1) 1 116 := ⟨by decide +kernel, rfl⟩
theorem d1_116 : Dc method_4_code 116 (.iload 6) 2 118 := ⟨by decide +kernel, rfl⟩
theorem d1_118 : Jp method_4_code 118 (.if_icmp .gt) 128 121 := ⟨10, by decide +kernel, by decide, by decide, rfl⟩
theorem d1_121 : Dc method_4_code 121 (.iload_n 2) 1 122 := ⟨by decide +kernel, rfl⟩
theorem d1_122 : Dc method_4_code 122 (.invokestatic 19) 3 125 := ⟨by decide +kernel, rfl⟩
theorem d1_125 : Jp method_4_code 125 (.ifCond .ne) 130 128 := ⟨5, by decide +kernel, by decide, by decide, rfl⟩
theorem d1_128 : Dc method_4_code 128 (.iconst (-1)) 1 129 := ⟨by decide +kernel, rfl⟩
theorem d1_129 : Dc method_4_code 129 .ireturn 1 130 := ⟨by decide +kernel, rfl⟩
theorem d1_130 : Dc method_4_code 130 (.iload_n 0) 1 131 := ⟨by decide +kernel, rfl⟩
theorem d1_131 : Dc method_4_code 131 (.sipush 224) 3 134 := ⟨by decide +kernel, rfl⟩
theorem d1_134 : Dc method_4_code 134 .isub 1 135 := ⟨by decide +kernel, rfl⟩
theorem d1_135 : Dc method_4_code 135 (.sipush 4096) 3 138 := ⟨by decide +kernel, rfl⟩
theorem d1_138 : Dc method_4_code 138 .imul 1 139 := ⟨by decide +kernel, rfl⟩
theorem d1_139 : Dc method_4_code 139 (.iload_n 1) 1 140 := ⟨by decide +kernel, rfl⟩
theorem d1_140 : Dc method_4_code 140 (.sipush 128) 3 143 := ⟨by decide +kernel, rfl⟩
theorem d1_143 : Dc method_4_code 143 .isub 1 144 := ⟨by decide +kernel, rfl⟩
theorem d1_144 : Dc method_4_code 144 (.bipush 64) 2 146 := ⟨by decide +kernel, rfl⟩
theorem d1_146 : Dc method_4_code 146 .imul 1 147 := ⟨by decide +kernel, rfl⟩
theorem d1_147 : Dc method_4_code 147 .iadd 1 148 := ⟨by decide +kernel, rfl⟩
theorem d1_148 : Dc method_4_code 148 (.iload_n 2) 1 149 := ⟨by decide +kernel, rfl⟩
theorem d1_149 : Dc method_4_code 149 (.sipush 128) 3 152 := ⟨by decide +kernel, rfl⟩
theorem d1_152 : Dc method_4_code 152 .isub 1 153 := ⟨by decide +kernel, rfl⟩
theorem d1_153 : Dc method_4_code 153 .iadd 1 154 := ⟨by decide +kernel, rfl⟩
theorem d1_154 : Dc method_4_code 154 .ireturn 1 155 := ⟨by decide +kernel, rfl⟩
theorem d1_155 : Dc method_4_code 155 (.iload_n 0) 1 156 := ⟨by decide +kernel, rfl⟩
theorem d1_156 : Dc method_4_code 156 (.sipush 240) 3 159 := ⟨by decide +kernel, rfl⟩
theorem d1_159 : Jp method_4_code 159 (.if_icmp .lt) 273 162 := ⟨114, by decide +kernel, by decide, by decide, rfl⟩
theorem d1_162 : Dc method_4_code 162 (.iload_n 0) 1 163 := ⟨by decide +kernel, rfl⟩
theorem d1_163 : Dc method_4_code 163 (.sipush 244) 3 166 := ⟨by decide +kernel, rfl⟩
theorem d1_166 : Jp method_4_code 166 (.if_icmp .gt) 273 169 := ⟨107, by decide +kernel, by decide, by decide, rfl⟩
theorem d1_169 : Dc method_4_code 169 (.iload_n 0) 1 170 := ⟨by decide +kernel, rfl⟩
theorem d1_170 : Dc method_4_code 170 (.sipush 240) 3 173 := ⟨by decide +kernel, rfl⟩
theorem d1_173 : Jp method_4_code 173 (.if_icmp .ne) 182 176 := ⟨9, by decide +kernel, by decide, by decide, rfl⟩
theorem d1_176 : Dc method_4_code 176 (.sipush 144) 3 179 := ⟨by decide +kernel, rfl⟩
theorem d1_179 : Jp method_4_code 179 .goto 185 182 := ⟨6, by decide +kernel, by decide, by decide, rfl⟩
theorem d1_182 : Dc method_4_code 182 (.sipush 128) 3 185 := ⟨by decide +kernel, rfl⟩
theorem d1_185 : Dc method_4_code 185 (.istore 5) 2 187 := ⟨by decide +kernel, rfl⟩
theorem d1_187 : Dc method_4_code 187 (.iload_n 0) 1 188 := ⟨by decide +kernel, rfl⟩
theorem d1_188 : Dc method_4_code 188 (.sipush 244) 3 191 := ⟨by decide +kernel, rfl⟩
theorem d1_191 : Jp method_4_code 191 (.if_icmp .ne) 200 194 := ⟨9, by decide +kernel, by decide, by decide, rfl⟩
theorem d1_194 : Dc method_4_code 194 (.sipush 143) 3 197 := ⟨by decide +kernel, rfl⟩
theorem d1_197 : Jp method_4_code 197 .goto 203 200 := ⟨6, by decide +kernel, by decide, by decide, rfl⟩
theorem d1_200 : Dc method_4_code 200 (.sipush 191) 3 203 := ⟨by decide +kernel, rfl⟩
theorem d1_203 : Dc method_4_code 203 (.istore 6) 2 205 := ⟨by decide +kernel, rfl⟩
theorem d1_205 : Dc method_4_code 205 (.iload 4) 2 207 := ⟨by decide +kernel, rfl⟩
theorem d1_207 : Dc method_4_code 207 (.iconst 4) 1 208 := ⟨by decide +kernel, rfl⟩
theorem d1_208 : Jp method_4_code 208 (.if_icmp .lt) 237 211 := ⟨29, by decide +kernel, by decide, by decide, rfl⟩
theorem d1_211 : Dc method_4_code 211 (.iload_n 1) 1 212 := ⟨by decide +kernel, rfl⟩
theorem d1_212 : Dc method_4_code 212 (.iload 5) 2 214 := ⟨by decide +kernel, rfl⟩
theorem d1_214 : Jp method_4_code 214 (.if_icmp .lt) 237 217 := ⟨23, by decide +kernel, by decide, by decide, rfl⟩
theorem d1_217 : Dc method_4_code 217 (.iload_n 1) 1 218 := ⟨by decide +kernel, rfl⟩
theorem d1_218 : Dc method_4_code 218 (.iload 6) 2 220 := ⟨by decide +kernel, rfl⟩
theorem d1_220 : Jp method_4_code 220 (.if_icmp .gt) 237 223 := ⟨17, by decide +kernel, by decide, by decide, rfl⟩
theorem d1_223 : Dc method_4_code 223 (.iload_n 2) 1 224 := ⟨by decide +kernel, rfl⟩
theorem d1_224 : Dc method_4_code 224 (.invokestatic 19) 3 227 := ⟨by decide +kernel, rfl⟩
theorem d1_227 : Jp method_4_code 227 (.ifCond .eq) 237 230 := ⟨10, by decide +kernel, by decide, by decide, rfl⟩
theorem d1_230 : Dc method_4_code 230 (.iload_n 3) 1 231 := ⟨by decide +kernel, rfl⟩
theorem d1_231 : Dc method_4_code 231 (.invokestatic 19) 3 234 := ⟨by decide +kernel, rfl⟩
theorem d1_234 : Jp method_4_code 234 (.ifCond .ne) 239 237 := ⟨5, by decide +kernel, by decide, by decide, rfl⟩
theorem d1_237 : Dc method_4_code 237 (.iconst (-1)) 1 238 := ⟨by decide +kernel, rfl⟩
theorem d1_238 : Dc method_4_code 238 .ireturn 1 239 := ⟨by decide +kernel, rfl⟩
theorem d1_239 : Dc method_4_code 239 (.iload_n 0) 1 240 := ⟨by decide +kernel, rfl⟩
theorem d1_240 : Dc method_4_code 240 (.sipush 240) 3 243 := ⟨by decide +kernel, rfl⟩
theorem d1_243 : Dc method_4_code 243 .isub 1 244 := ⟨by decide +kernel, rfl⟩
theorem d1_244 : Dc method_4_code 244 (.ldc 23) 2 246 := ⟨by decide +kernel, rfl⟩
theorem d1_246 : Dc method_4_code 246 .imul 1 247 := ⟨by decide +kernel, rfl⟩
theorem d1_247 : Dc method_4_code 247 (.iload_n 1) 1 248 := ⟨by decide +kernel, rfl⟩
theorem d1_248 : Dc method_4_code 248 (.sipush 128) 3 251 := ⟨by decide +kernel, rfl⟩
theorem d1_251 : Dc method_4_code 251 .isub 1 252 := ⟨by decide +kernel, rfl⟩
theorem d1_252 : Dc method_4_code 252 (.sipush 4096) 3 255 := ⟨by decide +kernel, rfl⟩
theorem d1_255 : Dc method_4_code 255 .imul 1 256 := ⟨by decide +kernel, rfl⟩
theorem d1_256 : Dc method_4_code 256 .iadd 1 257 := ⟨by decide +kernel, rfl⟩
theorem d1_257 : Dc method_4_code 257 (.iload_n 2) 1 258 := ⟨by decide +kernel, rfl⟩
theorem d1_258 : Dc method_4_code 258 (.sipush 128) 3 261 := ⟨by decide +kernel, rfl⟩
theorem d1_261 : Dc method_4_code 261 .isub 1 262 := ⟨by decide +kernel, rfl⟩
theorem d1_262 : Dc method_4_code 262 (.bipush 64) 2 264 := ⟨by decide +kernel, rfl⟩
theorem d1_264 : Dc method_4_code 264 .imul 1 265 := ⟨by decide +kernel, rfl⟩
theorem d1_265 : Dc method_4_code 265 .iadd 1 266 := ⟨by decide +kernel, rfl⟩
theorem d1_266 : Dc method_4_code 266 (.iload_n 3) 1 267 := ⟨by decide +kernel, rfl⟩
theorem d1_267 : Dc method_4_code 267 (.sipush 128) 3 270 := ⟨by decide +kernel, rfl⟩
theorem d1_270 : Dc method_4_code 270 .isub 1 271 := ⟨by decide +kernel, rfl⟩
theorem d1_271 : Dc method_4_code 271 .iadd 1 272 := ⟨by decide +kernel, rfl⟩
theorem d1_272 : Dc method_4_code 272 .ireturn 1 273 := ⟨by decide +kernel, rfl⟩
theorem d1_273 : Dc method_4_code 273 (.iconst (-1)) 1 274 := ⟨by decide +kernel, rfl⟩
theorem d1_274 : Dc method_4_code 274 .ireturn 1 275 := ⟨by decide +kernel, rfl⟩
theorem d2_0 : Dc prog_102_method_2_code 0 (.aload_n 0) 1 1 := ⟨by decide +kernel, rfl⟩
theorem d2_1 : Dc prog_102_method_2_code 1 (.iload_n 1) 1 2 := ⟨by decide +kernel, rfl⟩
theorem d2_2 : Dc prog_102_method_2_code 2 .baload 1 3 := ⟨by decide +kernel, rfl⟩
theorem d2_3 : Dc prog_102_method_2_code 3 (.sipush 255) 3 6 := ⟨by decide +kernel, rfl⟩
theorem d2_6 : Dc prog_102_method_2_code 6 .iand 1 7 := ⟨by decide +kernel, rfl⟩
theorem d2_7 : Dc prog_102_method_2_code 7 (.istore_n 3) 1 8 := ⟨by decide +kernel, rfl⟩
theorem d2_8 : Dc prog_102_method_2_code 8 (.iload_n 3) 1 9 := ⟨by decide +kernel, rfl⟩
theorem d2_9 : Dc prog_102_method_2_code 9 (.sipush 128) 3 12 := ⟨by decide +kernel, rfl⟩
theorem d2_12 : Jp prog_102_method_2_code 12 (.if_icmp .ge) 17 15 := ⟨5, by decide +kernel, by decide, by decide, rfl⟩
theorem d2_15 : Dc prog_102_method_2_code 15 (.iload_n 3) 1 16 := ⟨by decide +kernel, rfl⟩
theorem d2_16 : Dc prog_102_method_2_code 16 .ireturn 1 17 := ⟨by decide +kernel, rfl⟩
theorem d2_17 : Dc prog_102_method_2_code 17 (.iload_n 3) 1 18 := ⟨by decide +kernel, rfl⟩
theorem d2_18 : Dc prog_102_method_2_code 18 (.sipush 224) 3 21 := ⟨by decide +kernel, rfl⟩
theorem d2_21 : Dc prog_102_method_2_code 21 .iand 1 22 := ⟨by decide +kernel, rfl⟩
theorem d2_22 : Dc prog_102_method_2_code 22 (.sipush 192) 3 25 := ⟨by decide +kernel, rfl⟩
theorem d2_25 : Jp prog_102_method_2_code 25 (.if_icmp .ne) 40 28 := ⟨15, by decide +kernel, by decide, by decide, rfl⟩
theorem d2_28 : Dc prog_102_method_2_code 28 (.iconst 2) 1 29 := ⟨by decide +kernel, rfl⟩
theorem d2_29 : Dc prog_102_method_2_code 29 (.istore 4) 2 31 := ⟨by decide +kernel, rfl⟩
theorem d2_31 : Dc prog_102_method_2_code 31 (.iload_n 3) 1 32 := ⟨by decide +kernel, rfl⟩
theorem d2_32 : Dc prog_102_method_2_code 32 (.bipush 31) 2 34 := ⟨by decide +kernel, rfl⟩
theorem d2_34 : Dc prog_102_method_2_code 34 .iand 1 35 := ⟨by decide +kernel, rfl⟩
theorem d2_35 : Dc prog_102_method_2_code 35 (.istore 5) 2 37 := ⟨by decide +kernel, rfl⟩
theorem d2_37 : Jp prog_102_method_2_code 37 .goto 88 40 := ⟨51, by decide +kernel, by decide, by decide, rfl⟩
theorem d2_40 : Dc prog_102_method_2_code 40 (.iload_n 3) 1 41 := ⟨by decide +kernel, rfl⟩
theorem d2_41 : Dc prog_102_method_2_code 41 (.sipush 240) 3 44 := ⟨by decide +kernel, rfl⟩
theorem d2_44 : Dc prog_102_method_2_code 44 .iand 1 45 := ⟨by decide +kernel, rfl⟩
theorem d2_45 : Dc prog_102_method_2_code 45 (.sipush 224) 3 48 := ⟨by decide +kernel, rfl⟩
theorem d2_48 : Jp prog_102_method_2_code 48 (.if_icmp .ne) 63 51 := ⟨15, by decide +kernel, by decide, by decide, rfl⟩
theorem d2_51 : Dc prog_102_method_2_code 51 (.iconst 3) 1 52 := ⟨by decide +kernel, rfl⟩
theorem d2_52 : Dc prog_102_method_2_code 52 (.istore 4) 2 54 := ⟨by decide +kernel, rfl⟩
theorem d2_54 : Dc prog_102_method_2_code 54 (.iload_n 3) 1 55 := ⟨by decide +kernel, rfl⟩
theorem d2_55 : Dc prog_102_method_2_code 55 (.bipush 15) 2 57 := ⟨by decide +kernel, rfl⟩
theorem d2_57 : Dc prog_102_method_2_code 57 .iand 1 58 := ⟨by decide +kernel, rfl⟩
theorem d2_58 : Dc prog_102_method_2_code 58 (.istore 5) 2 60 := ⟨by decide +kernel, rfl⟩
theorem d2_60 : Jp prog_102_method_2_code 60 .goto 88 63 := ⟨28, by decide +kernel, by decide, by decide, rfl⟩
theorem d2_63 : Dc prog_102_method_2_code 63 (.iload_n 3) 1 64 := ⟨by decide +kernel, rfl⟩
theorem d2_64 : Dc prog_102_method_2_code 64 (.sipush 248) 3 67 := ⟨by decide +kernel, rfl⟩
theorem d2_67 : Dc prog_102_method_2_code 67 .iand 1 68 := ⟨by decide +kernel, rfl⟩
theorem d2_68 : Dc prog_102_method_2_code 68 (.sipush 240) 3 71 := ⟨by decide +kernel, rfl⟩
theorem d2_71 : Jp prog_102_method_2_code 71 (.if_icmp .ne) 86 74 := ⟨15, by decide +kernel, by decide, by decide, rfl⟩
theorem d2_74 : Dc prog_102_method_2_code 74 (.iconst 4) 1 75 := ⟨by decide +kernel, rfl⟩
theorem d2_75 : Dc prog_102_method_2_code 75 (.istore 4) 2 77 := ⟨by decide +kernel, rfl⟩
theorem d2_77 : Dc prog_102_method_2_code 77 (.iload_n 3) 1 78 := ⟨by decide +kernel, rfl⟩
theorem d2_78 : Dc prog_102_method_2_code 78 (.bipush 7) 2 80 := ⟨by decide +kernel, rfl⟩
theorem d2_80 : Dc prog_102_method_2_code 80 .iand 1 81 := ⟨by decide +kernel, rfl⟩
theorem d2_81 : Dc prog_102_method_2_code 81 (.istore 5) 2 83 := ⟨by decide +kernel, rfl⟩
theorem d2_83 : Jp prog_102_method_2_code 83 .goto 88 86 := ⟨5, by decide +kernel, by decide, by decide, rfl⟩
theorem d2_86 : Dc prog_102_method_2_code 86 (.iconst (-1)) 1 87 := ⟨by decide +kernel, rfl⟩
theorem d2_87 : Dc prog_102_method_2_code 87 .ireturn 1 88 := ⟨by decide +kernel, rfl⟩
theorem d2_88 : Dc prog_102_method_2_code 88 (.iload_n 2) 1 89 := ⟨by decide +kernel, rfl⟩
theorem d2_89 : Dc prog_102_method_2_code 89 (.iload_n 1) 1 90 := ⟨by decide +kernel, rfl⟩
theorem d2_90 : Dc prog_102_method_2_code 90 .isub 1 91 := ⟨by decide +kernel, rfl⟩
theorem d2_91 : Dc prog_102_method_2_code 91 (.iload 4) 2 93 := ⟨by decide +kernel, rfl⟩
theorem d2_93 : Jp prog_102_method_2_code 93 (.if_icmp .ge) 98 96 := ⟨5, by decide +kernel, by decide, by decide, rfl⟩
theorem d2_96 : Dc prog_102_method_2_code 96 (.iconst (-1)) 1 97 := ⟨by decide +kernel, rfl⟩
theorem d2_97 : Dc prog_102_method_2_code 97 .ireturn 1 98 := ⟨by decide +kernel, rfl⟩
theorem d2_98 : Dc prog_102_method_2_code 98 (.iload_n 1) 1 99 := ⟨by decide +kernel, rfl⟩
theorem d2_99 : Dc prog_102_method_2_code 99 (.iconst 1) 1 100 := ⟨by decide +kernel, rfl⟩
theorem d2_100 : Dc prog_102_method_2_code 100 .iadd 1 101 := ⟨by decide +kernel, rfl⟩
theorem d2_101 : Dc prog_102_method_2_code 101 (.istore 6) 2 103 := ⟨by decide +kernel, rfl⟩
theorem d2_103 : Dc prog_102_method_2_code 103 (.iload 6) 2 105 := ⟨by decide +kernel, rfl⟩
theorem d2_105 : Dc prog_102_method_2_code 105 (.iload_n 1) 1 106 := ⟨by decide +kernel, rfl⟩
theorem d2_106 : Dc prog_102_method_2_code 106 (.iload 4) 2 108 := ⟨by decide +kernel, rfl⟩
theorem d2_108 : Dc prog_102_method_2_code 108 .iadd 1 109 := ⟨by decide +kernel, rfl⟩
theorem d2_109 : Jp prog_102_method_2_code 109 (.if_icmp .ge) 155 112 := ⟨46, by decide +kernel, by decide, by decide, rfl⟩
theorem d2_112 : Dc prog_102_method_2_code 112 (.aload_n 0) 1 113 := ⟨by decide +kernel, rfl⟩
theorem d2_113 : Dc prog_102_method_2_code 113 (.iload 6) 2 115 := ⟨by decide +kernel, rfl⟩
theorem d2_115 : Dc prog_102_method_2_code 115 .baload 1 116 := ⟨by decide +kernel, rfl⟩
theorem d2_116 : Dc prog_102_method_2_code 116 (.sipush 255) 3 119 := ⟨by decide +kernel, rfl⟩
theorem d2_119 : Dc prog_102_method_2_code 119 .iand 1 120 := ⟨by decide +kernel, rfl⟩
theorem d2_120 : Dc prog_102_method_2_code 120 (.istore 7) 2 122 := ⟨by decide +kernel, rfl⟩
theorem d2_122 : Dc prog_102_method_2_code 122 (.iload 7) 2 124 := ⟨by decide +kernel, rfl⟩
theorem d2_124 : Dc prog_102_method_2_code 124 (.sipush 192) 3 127 := ⟨by decide +kernel, rfl⟩
theorem d2_127 : Dc prog_102_method_2_code 127 .iand 1 128 := ⟨by decide +kernel, rfl⟩
theorem d2_128 : Dc prog_102_method_2_code 128 (.sipush 128) 3 131 := ⟨by decide +kernel, rfl⟩
theorem d2_131 : Jp prog_102_method_2_code 131 (.if_icmp .eq) 136 134 := ⟨5, by decide +kernel, by decide, by decide, rfl⟩
theorem d2_134 : Dc prog_102_method_2_code 134 (.iconst (-1)) 1 135 := ⟨by decide +kernel, rfl⟩
theorem d2_135 : Dc prog_102_method_2_code 135 .ireturn 1 136 := ⟨by decide +kernel, rfl⟩
theorem d2_136 : Dc prog_102_method_2_code 136 (.iload 5) 2 138 := ⟨by decide +kernel, rfl⟩
theorem d2_138 : Dc prog_102_method_2_code 138 (.bipush 6) 2 140 := ⟨by decide +kernel, rfl⟩
theorem d2_140 : Dc prog_102_method_2_code 140 .ishl 1 141 := ⟨by decide +kernel, rfl⟩
theorem d2_141 : Dc prog_102_method_2_code 141 (.iload 7) 2 143 := ⟨by decide +kernel, rfl⟩
theorem d2_143 : Dc prog_102_method_2_code 143 (.bipush 63) 2 145 := ⟨by decide +kernel, rfl⟩
theorem d2_145 : Dc prog_102_method_2_code 145 .iand 1 146 := ⟨by decide +kernel, rfl⟩
theorem d2_146 : Dc prog_102_method_2_code 146 .ior 1 147 := ⟨by decide +kernel, rfl⟩
theorem d2_147 : Dc prog_102_method_2_code 147 (.istore 5) 2 149 := ⟨by decide +kernel, rfl⟩
theorem d2_149 : Dc prog_102_method_2_code 149 (.iinc 6 1) 3 152 := ⟨by decide +kernel, rfl⟩
theorem d2_152 : Jp prog_102_method_2_code 152 .goto 103 155 := ⟨-49, by decide +kernel, by decide, by decide, rfl⟩
theorem d2_155 : Dc prog_102_method_2_code 155 (.iload 4) 2 157 := ⟨by decide +kernel, rfl⟩
theorem d2_157 : Dc prog_102_method_2_code 157 (.iconst 2) 1 158 := ⟨by decide +kernel, rfl⟩
theorem d2_158 : Jp prog_102_method_2_code 158 (.if_icmp .ne) 167 161 := ⟨9, by decide +kernel, by decide, by decide, rfl⟩
theorem d2_161 : Dc prog_102_method_2_code 161 (.sipush 128) 3 164 := ⟨by decide +kernel, rfl⟩
theorem d2_164 : Jp prog_102_method_2_code 164 .goto 181 167 := ⟨17, by decide +kernel, by decide, by decide, rfl⟩
theorem d2_167 : Dc prog_102_method_2_code 167 (.iload 4) 2 169 := ⟨by decide +kernel, rfl⟩
theorem d2_169 : Dc prog_102_method_2_code 169 (.iconst 3) 1 170 := ⟨by decide +kernel, rfl⟩
theorem d2_170 : Jp prog_102_method_2_code 170 (.if_icmp .ne) 179 173 := ⟨9, by decide +kernel, by decide, by decide, rfl⟩
theorem d2_173 : Dc prog_102_method_2_code 173 (.sipush 2048) 3 176 := ⟨by decide +kernel, rfl⟩
theorem d2_176 : Jp prog_102_method_2_code 176 .goto 181 179 := ⟨5, by decide +kernel, by decide, by decide, rfl⟩
theorem d2_179 : Dc prog_102_method_2_code 179 (.ldc 9) 2 181 := ⟨by decide +kernel, rfl⟩
theorem d2_181 : Dc prog_102_method_2_code 181 (.istore 6) 2 183 := ⟨by decide +kernel, rfl⟩
theorem d2_183 : Dc prog_102_method_2_code 183 (.iload 5) 2 185 := ⟨by decide +kernel, rfl⟩
theorem d2_185 : Dc prog_102_method_2_code 185 (.iload 6) 2 187 := ⟨by decide +kernel, rfl⟩
theorem d2_187 : Jp prog_102_method_2_code 187 (.if_icmp .lt) 211 190 := ⟨24, by decide +kernel, by decide, by decide, rfl⟩
theorem d2_190 : Dc prog_102_method_2_code 190 (.iload 5) 2 192 := ⟨by decide +kernel, rfl⟩
theorem d2_192 : Dc prog_102_method_2_code 192 (.ldc 12) 2 194 := ⟨by decide +kernel, rfl⟩
theorem d2_194 : Jp prog_102_method_2_code 194 (.if_icmp .lt) 204 197 := ⟨10, by decide +kernel, by decide, by decide, rfl⟩
theorem d2_197 : Dc prog_102_method_2_code 197 (.iload 5) 2 199 := ⟨by decide +kernel, rfl⟩
theorem d2_199 : Dc prog_102_method_2_code 199 (.ldc 13) 2 201 := ⟨by decide +kernel, rfl⟩
theorem d2_201 : Jp prog_102_method_2_code 201 (.if_icmp .le) 211 204 := ⟨10, by decide +kernel, by decide, by decide, rfl⟩
theorem d2_204 : Dc prog_102_method_2_code 204 (.iload 5) 2 206 := ⟨by decide +kernel, rfl⟩
theorem d2_206 : Dc prog_102_method_2_code 206 (.ldc 14) 2 208 := ⟨by decide +kernel, rfl⟩
theorem d2_208 : Jp prog_102_method_2_code 208 (.if_icmp .le) 213 211 := ⟨5, by decide +kernel, by decide, by decide, rfl⟩
theorem d2_211 : Dc prog_102_method_2_code 211 (.iconst (-1)) 1 212 := ⟨by decide +kernel, rfl⟩
theorem d2_212 : Dc prog_102_method_2_code 212 .ireturn 1 213 := ⟨by decide +kernel, rfl⟩
theorem d2_213 : Dc prog_102_method_2_code 213 (.iload 5) 2 215 := ⟨by decide +kernel, rfl⟩
theorem d2_215 : Dc prog_102_method_2_code 215 .ireturn 1 216 := ⟨by decide +kernel, rfl⟩
theorem d3_0 : Dc code 0 (.iload_n 1) 1 1 := ⟨by decide +kernel, rfl⟩
theorem d3_1 : Dc code 1 (.iconst 1) 1 2 := ⟨by decide +kernel, rfl⟩
theorem d3_2 : Dc code 2 .iand 1 3 := ⟨by decide +kernel, rfl⟩
theorem d3_3 : Dc code 3 (.istore_n 3) 1 4 := ⟨by decide +kernel, rfl⟩
theorem d3_4 : Dc code 4 (.iload_n 1) 1 5 := ⟨by decide +kernel, rfl⟩
theorem d3_5 : Dc code 5 (.iconst 1) 1 6 := ⟨by decide +kernel, rfl⟩
theorem d3_6 : Dc code 6 .iushr 1 7 := ⟨by decide +kernel, rfl⟩
theorem d3_7 : Dc code 7 (.iconst 3) 1 8 := ⟨by decide +kernel, rfl⟩
theorem d3_8 : Dc code 8 .iand 1 9 := ⟨by decide +kernel, rfl⟩
theorem d3_9 : Dc code 9 (.iconst 1) 1 10 := ⟨by decide +kernel, rfl⟩
theorem d3_10 : Dc code 10 .iadd 1 11 := ⟨by decide +kernel, rfl⟩
theorem d3_11 : Dc code 11 (.istore 4) 2 13 := ⟨by decide +kernel, rfl⟩
theorem d3_13 : Dc code 13 (.iload_n 1) 1 14 := ⟨by decide +kernel, rfl⟩
theorem d3_14 : Dc code 14 (.iconst 3) 1 15 := ⟨by decide +kernel, rfl⟩
theorem d3_15 : Dc code 15 .iushr 1 16 := ⟨by decide +kernel, rfl⟩
theorem d3_16 : Dc code 16 (.iconst 1) 1 17 := ⟨by decide +kernel, rfl⟩
theorem d3_17 : Dc code 17 .iand 1 18 := ⟨by decide +kernel, rfl⟩
theorem d3_18 : Jp code 18 (.ifCond .eq) 25 21 := ⟨7, by decide +kernel, by decide, by decide, rfl⟩
theorem d3_21 : Dc code 21 (.iconst 1) 1 22 := ⟨by decide +kernel, rfl⟩
theorem d3_22 : Jp code 22 .goto 26 25 := ⟨4, by decide +kernel, by decide, by decide, rfl⟩
theorem d3_25 : Dc code 25 (.iconst 0) 1 26 := ⟨by decide +kernel, rfl⟩
theorem d3_26 : Dc code 26 (.istore 5) 2 28 := ⟨by decide +kernel, rfl⟩
theorem d3_28 : Dc code 28 (.iload_n 0) 1 29 := ⟨by decide +kernel, rfl⟩
theorem d3_29 : Dc code 29 (.sipush 255) 3 32 := ⟨by decide +kernel, rfl⟩
theorem d3_32 : Dc code 32 .iand 1 33 := ⟨by decide +kernel, rfl⟩
theorem d3_33 : Dc code 33 (.istore 6) 2 35 := ⟨by decide +kernel, rfl⟩
theorem d3_35 : Dc code 35 (.iload_n 0) 1 36 := ⟨by decide +kernel, rfl⟩
theorem d3_36 : Dc code 36 (.bipush 8) 2 38 := ⟨by decide +kernel, rfl⟩
theorem d3_38 : Dc code 38 .iushr 1 39 := ⟨by decide +kernel, rfl⟩
theorem d3_39 : Dc code 39 (.sipush 255) 3 42 := ⟨by decide +kernel, rfl⟩
theorem d3_42 : Dc code 42 .iand 1 43 := ⟨by decide +kernel, rfl⟩
theorem d3_43 : Dc code 43 (.istore 7) 2 45 := ⟨by decide +kernel, rfl⟩
theorem d3_45 : Dc code 45 (.iload_n 0) 1 46 := ⟨by decide +kernel, rfl⟩
theorem d3_46 : Dc code 46 (.bipush 16) 2 48 := ⟨by decide +kernel, rfl⟩
theorem d3_48 : Dc code 48 .iushr 1 49 := ⟨by decide +kernel, rfl⟩
theorem d3_49 : Dc code 49 (.sipush 255) 3 52 := ⟨by decide +kernel, rfl⟩
theorem d3_52 : Dc code 52 .iand 1 53 := ⟨by decide +kernel, rfl⟩
theorem d3_53 : Dc code 53 (.istore 8) 2 55 := ⟨by decide +kernel, rfl⟩
theorem d3_55 : Dc code 55 (.iload_n 0) 1 56 := ⟨by decide +kernel, rfl⟩
theorem d3_56 : Dc code 56 (.bipush 24) 2 58 := ⟨by decide +kernel, rfl⟩
theorem d3_58 : Dc code 58 .iushr 1 59 := ⟨by decide +kernel, rfl⟩
theorem d3_59 : Dc code 59 (.sipush 255) 3 62 := ⟨by decide +kernel, rfl⟩
theorem d3_62 : Dc code 62 .iand 1 63 := ⟨by decide +kernel, rfl⟩
theorem d3_63 : Dc code 63 (.istore 9) 2 65 := ⟨by decide +kernel, rfl⟩
theorem d3_65 : Dc code 65 (.iload 5) 2 67 := ⟨by decide +kernel, rfl⟩
theorem d3_67 : Jp code 67 (.ifCond .eq) 103 70 := ⟨36, by decide +kernel, by decide, by decide, rfl⟩
theorem d3_70 : Dc code 70 (.sipush 128) 3 73 := ⟨by decide +kernel, rfl⟩
theorem d3_73 : Dc code 73 (.iload 7) 2 75 := ⟨by decide +kernel, rfl⟩
theorem d3_75 : Dc code 75 (.bipush 63) 2 77 := ⟨by decide +kernel, rfl⟩
theorem d3_77 : Dc code 77 .iand 1 78 := ⟨by decide +kernel, rfl⟩
theorem d3_78 : Dc code 78 .ior 1 79 := ⟨by decide +kernel, rfl⟩
theorem d3_79 : Dc code 79 (.istore 7) 2 81 := ⟨by decide +kernel, rfl⟩
theorem d3_81 : Dc code 81 (.sipush 128) 3 84 := ⟨by decide +kernel, rfl⟩
theorem d3_84 : Dc code 84 (.iload 8) 2 86 := ⟨by decide +kernel, rfl⟩
theorem d3_86 : Dc code 86 (.bipush 63) 2 88 := ⟨by decide +kernel, rfl⟩
theorem d3_88 : Dc code 88 .iand 1 89 := ⟨by decide +kernel, rfl⟩
theorem d3_89 : Dc code 89 .ior 1 90 := ⟨by decide +kernel, rfl⟩
theorem d3_90 : Dc code 90 (.istore 8) 2 92 := ⟨by decide +kernel, rfl⟩
theorem d3_92 : Dc code 92 (.sipush 128) 3 95 := ⟨by decide +kernel, rfl⟩
theorem d3_95 : Dc code 95 (.iload 9) 2 97 := ⟨by decide +kernel, rfl⟩
theorem d3_97 : Dc code 97 (.bipush 63) 2 99 := ⟨by decide +kernel, rfl⟩
theorem d3_99 : Dc code 99 .iand 1 100 := ⟨by decide +kernel, rfl⟩
theorem d3_100 : Dc code 100 .ior 1 101 := ⟨by decide +kernel, rfl⟩
theorem d3_101 : Dc code 101 (.istore 9) 2 103 := ⟨by decide +kernel, rfl⟩
theorem d3_103 : Dc code 103 (.iconst 5) 1 104 := ⟨by decide +kernel, rfl⟩
theorem d3_104 : Dc code 104 (.newarray .byte) 2 106 := ⟨by decide +kernel, rfl⟩
theorem d3_106 : Dc code 106 (.astore 10) 2 108 := ⟨by decide +kernel, rfl⟩
theorem d3_108 : Dc code 108 (.aload 10) 2 110 := ⟨by decide +kernel, rfl⟩
theorem d3_110 : Dc code 110 (.iconst 0) 1 111 := ⟨by decide +kernel, rfl⟩
theorem d3_111 : Dc code 111 (.iload_n 2) 1 112 := ⟨by decide +kernel, rfl⟩
theorem d3_112 : Dc code 112 .i2b 1 113 := ⟨by decide +kernel, rfl⟩
theorem d3_113 : Dc code 113 .bastore 1 114 := ⟨by decide +kernel, rfl⟩
theorem d3_114 : Dc code 114 (.aload 10) 2 116 := ⟨by decide +kernel, rfl⟩
theorem d3_116 : Dc code 116 (.iconst 4) 1 117 := ⟨by decide +kernel, rfl⟩
theorem d3_117 : Dc code 117 (.iload_n 2) 1 118 := ⟨by decide +kernel, rfl⟩
theorem d3_118 : Dc code 118 (.bipush 8) 2 120 := ⟨by decide +kernel, rfl⟩
theorem d3_120 : Dc code 120 .iushr 1 121 := ⟨by decide +kernel, rfl⟩
theorem d3_121 : Dc code 121 .i2b 1 122 := ⟨by decide +kernel, rfl⟩
theorem d3_122 : Dc code 122 .bastore 1 123 := ⟨by decide +kernel, rfl⟩
theorem d3_123 : Dc code 123 (.aload 10) 2 125 := ⟨by decide +kernel, rfl⟩
theorem d3_125 : Dc code 125 (.iload_n 3) 1 126 := ⟨by decide +kernel, rfl⟩
theorem d3_126 : Dc code 126 (.iload 6) 2 128 := ⟨by decide +kernel, rfl⟩
theorem d3_128 : Dc code 128 .i2b 1 129 := ⟨by decide +kernel, rfl⟩
theorem d3_129 : Dc code 129 .bastore 1 130 := ⟨by decide +kernel, rfl⟩
theorem d3_130 : Dc code 130 (.aload 10) 2 132 := ⟨by decide +kernel, rfl⟩
theorem d3_132 : Dc code 132 (.iload_n 3) 1 133 := ⟨by decide +kernel, rfl⟩
theorem d3_133 : Dc code 133 (.iconst 1) 1 134 := ⟨by decide +kernel, rfl⟩
theorem d3_134 : Dc code 134 .iadd 1 135 := ⟨by decide +kernel, rfl⟩
theorem d3_135 : Dc code 135 (.iload 7) 2 137 := ⟨by decide +kernel, rfl⟩
theorem d3_137 : Dc code 137 .i2b 1 138 := ⟨by decide +kernel, rfl⟩
theorem d3_138 : Dc code 138 .bastore 1 139 := ⟨by decide +kernel, rfl⟩
theorem d3_139 : Dc code 139 (.aload 10) 2 141 := ⟨by decide +kernel, rfl⟩
theorem d3_141 : Dc code 141 (.iload_n 3) 1 142 := ⟨by decide +kernel, rfl⟩
theorem d3_142 : Dc code 142 (.iconst 2) 1 143 := ⟨by decide +kernel, rfl⟩
theorem d3_143 : Dc code 143 .iadd 1 144 := ⟨by decide +kernel, rfl⟩
theorem d3_144 : Dc code 144 (.iload 8) 2 146 := ⟨by decide +kernel, rfl⟩
theorem d3_146 : Dc code 146 .i2b 1 147 := ⟨by decide +kernel, rfl⟩
theorem d3_147 : Dc code 147 .bastore 1 148 := ⟨by decide +kernel, rfl⟩
theorem d3_148 : Dc code 148 (.aload 10) 2 150 := ⟨by decide +kernel, rfl⟩
theorem d3_150 : Dc code 150 (.iload_n 3) 1 151 := ⟨by decide +kernel, rfl⟩
theorem d3_151 : Dc code 151 (.iconst 3) 1 152 := ⟨by decide +kernel, rfl⟩
theorem d3_152 : Dc code 152 .iadd 1 153 := ⟨by decide +kernel, rfl⟩
theorem d3_153 : Dc code 153 (.iload 9) 2 155 := ⟨by decide +kernel, rfl⟩
theorem d3_155 : Dc code 155 .i2b 1 156 := ⟨by decide +kernel, rfl⟩
theorem d3_156 : Dc code 156 .bastore 1 157 := ⟨by decide +kernel, rfl⟩
theorem d3_157 : Dc code 157 (.aload 10) 2 159 := ⟨by decide +kernel, rfl⟩
theorem d3_159 : Dc code 159 (.iload_n 3) 1 160 := ⟨by decide +kernel, rfl⟩
theorem d3_160 : Dc code 160 (.iload_n 3) 1 161 := ⟨by decide +kernel, rfl⟩
theorem d3_161 : Dc code 161 (.iload 4) 2 163 := ⟨by decide +kernel, rfl⟩
theorem d3_163 : Dc code 163 .iadd 1 164 := ⟨by decide +kernel, rfl⟩
theorem d3_164 : Dc code 164 (.invokestatic 7) 3 167 := ⟨by decide +kernel, rfl⟩
theorem d3_167 : Dc code 167 (.istore 11) 2 169 := ⟨by decide +kernel, rfl⟩
theorem d3_169 : Dc code 169 (.iload 11) 2 171 := ⟨by decide +kernel, rfl⟩
theorem d3_171 : Dc code 171 (.iload 6) 2 173 := ⟨by decide +kernel, rfl⟩
theorem d3_173 : Dc code 173 (.iload 7) 2 175 := ⟨by decide +kernel, rfl⟩
theorem d3_175 : Dc code 175 (.iload 8) 2 177 := ⟨by decide +kernel, rfl⟩
theorem d3_177 : Dc code 177 (.iload 9) 2 179 := ⟨by decide +kernel, rfl⟩
theorem d3_179 : Dc code 179 (.iload 4) 2 181 := ⟨by decide +kernel, rfl⟩
theorem d3_181 : Dc code 181 (.invokestatic 13) 3 184 := ⟨by decide +kernel, rfl⟩
theorem d3_184 : Jp code 184 (.if_icmp .ne) 191 187 := ⟨7, by decide +kernel, by decide, by decide, rfl⟩
theorem d3_187 : Dc code 187 (.iconst 1) 1 188 := ⟨by decide +kernel, rfl⟩
theorem d3_188 : Jp code 188 .goto 192 191 := ⟨4, by decide +kernel, by decide, by decide, rfl⟩
theorem d3_192 : Dc code 192 .ireturn 1 193 := ⟨by decide +kernel, rfl⟩
theorem pn0 : plainFor (⟨"com/example/loomtrace/loomtrace/Utf8DecodePinLaw", "cont", "(I)Z"⟩ : MethodName) = true := plainFor_of_name (by first | (simp [plainName, overriddenIn]; done) | decide +kernel)
theorem pn1 : plainFor (⟨"com/example/loomtrace/loomtrace/Utf8DecodePinLaw", "expected", "(IIIII)I"⟩ : MethodName) = true := plainFor_of_name (by first | (simp [plainName, overriddenIn]; done) | decide +kernel)
theorem pd0 : parseMethodDescriptor "(I)Z" = some ⟨[.int], some .boolean⟩ := by decide +kernel
theorem pn2 : plainFor (⟨"com/example/loomtrace/loomtrace/Utf8", "decode", "([BII)I"⟩ : MethodName) = true := plainFor_of_name (by first | (simp [plainName, overriddenIn]; done) | decide +kernel)
theorem pn3 : plainFor x = true := plainFor_of_name (by first | (simp [plainName, overriddenIn]; done) | decide +kernel)
theorem pd1 : parseMethodDescriptor "([BII)I" = some ⟨[(.array .byte), .int, .int], some .int⟩ := by decide +kernel
theorem pd2 : parseMethodDescriptor "(IIIII)I" = some ⟨[.int, .int, .int, .int, .int], some .int⟩ := by decide +kernel
set_option maxRecDepth 65536 in
set_option maxHeartbeats 40000000 in
theorem rm1 (Z : State) (a0 : Array Value) (hw : ∀ d ∈ tables_1, d.before a0 Z = true) (u0 : Int32) (h0 : Heap) (n0 : Nat) (Z0 : n0 ≤ h0.size)  (lau : Launch) :
    Con lau Z (⟨"com/example/loomtrace/loomtrace/Utf8DecodePinLaw", "cont", "(I)Z"⟩ : MethodName) method_3_code 1 (some .boolean) ({ frames := 0, cells := 0, slots := 0, locals := 0 } : Room) #[(.int u0)] h0 n0 (RI fun z h => z = bI (128 ≤ u0.toInt ∧ u0.toInt ≤ 191) ∧ h0 = h) := by
  refine con_intro pn0 (L := #[.val (.int u0)]) (fun m => by first | (simp [entryFrame, mkF, argsToLocals, Value.category, maxLocals]; done) | rfl) Z0 (fun w T K H => ?_)
  refine go_iloadN K H d0_0 rfl ?_
  refine go_sipush (128) K H d0_1 (by decide) ?_
  refine go_icmp_lt K H d0_4 (fun c4 => ?_) (fun c4 => ?_)
  · refine go_iconst (0) K H d0_18 (by decide) ?_
    exact go_zret K H d0_19 rfl (by decide) (by decide) (by decide) (⟨by refine (bI_f ?_).symm; (try simp only [or_true, true_or, and_true, true_and, not_true_eq_false, not_false_eq_true, Int32.lt_iff_toInt_lt, Int32.le_iff_toInt_le, ← Int32.toInt_inj, Int64.lt_iff_toInt_lt, Int64.le_iff_toInt_le, ← Int64.toInt_inj, Int32.reduceToInt, Int64.reduceToInt, ne_eq] at *) <;> omega, rfl⟩)
  · refine go_iloadN K H d0_7 rfl ?_
    refine go_sipush (191) K H d0_8 (by decide) ?_
    refine go_icmp_gt K H d0_11 (fun c11 => ?_) (fun c11 => ?_)
    · refine go_iconst (0) K H d0_18 (by decide) ?_
      exact go_zret K H d0_19 rfl (by decide) (by decide) (by decide) (⟨by refine (bI_f ?_).symm; (try simp only [or_true, true_or, and_true, true_and, not_true_eq_false, not_false_eq_true, Int32.lt_iff_toInt_lt, Int32.le_iff_toInt_le, ← Int32.toInt_inj, Int64.lt_iff_toInt_lt, Int64.le_iff_toInt_le, ← Int64.toInt_inj, Int32.reduceToInt, Int64.reduceToInt, ne_eq] at *) <;> omega, rfl⟩)
    · refine go_iconst (1) K H d0_14 (by decide) ?_
      refine go_goto K H d0_15 ?_
      exact go_zret K H d0_19 rfl (by decide) (by decide) (by decide) (⟨by refine (bI_t ?_).symm; (try simp only [or_true, true_or, and_true, true_and, not_true_eq_false, not_false_eq_true, Int32.lt_iff_toInt_lt, Int32.le_iff_toInt_le, ← Int32.toInt_inj, Int64.lt_iff_toInt_lt, Int64.le_iff_toInt_le, ← Int64.toInt_inj, Int32.reduceToInt, Int64.reduceToInt, ne_eq] at *) <;> omega, rfl⟩)
set_option maxRecDepth 65536 in
set_option maxHeartbeats 40000000 in
theorem rm2 (Z : State) (a0 : Array Value) (hw : ∀ d ∈ tables_1, d.before a0 Z = true) (u0 : Int32) (u1 : Int32) (u2 : Int32) (u3 : Int32) (u4 : Int32) (h0 : Heap) (n0 : Nat) (Z0 : n0 ≤ h0.size) (g0 : 0 ≤ u0.toInt ∧ u0.toInt ≤ 255) (g1 : 0 ≤ u1.toInt ∧ u1.toInt ≤ 255) (g2 : 0 ≤ u2.toInt ∧ u2.toInt ≤ 255) (g3 : 0 ≤ u3.toInt ∧ u3.toInt ≤ 255) (lau : Launch) :
    Con lau Z (⟨"com/example/loomtrace/loomtrace/Utf8DecodePinLaw", "expected", "(IIIII)I"⟩ : MethodName) method_4_code 7 (some .int) ({ frames := 1, cells := 0, slots := 0, locals := 20 } : Room) #[(.int u0), (.int u1), (.int u2), (.int u3), (.int u4)] h0 n0 (RI fun z h => z.toInt = expS u0.toInt u1.toInt u2.toInt u3.toInt u4.toInt ∧ h0 = h) := by
  refine con_intro pn1 (L := #[.val (.int u0), .val (.int u1), .val (.int u2), .val (.int u3), .val (.int u4), .unset, .unset]) (fun m => by first | (simp [entryFrame, mkF, argsToLocals, Value.category, maxLocals]; done) | rfl) Z0 (fun w T K H => ?_)
  have J155 : ∀ (hb : (u0.toInt < 224 ∨ 239 < u0.toInt) ∧ (u0.toInt < 194 ∨ 223 < u0.toInt) ∧ 128 ≤ u0.toInt), Go w (RI fun z h => z.toInt = expS u0.toInt u1.toInt u2.toInt u3.toInt u4.toInt ∧ h0 = h) T 155 #[.val (.int u0), .val (.int u1), .val (.int u2), .val (.int u3), .val (.int u4), .unset, .unset] [] := by
    intro hb
    refine go_iloadN K H d1_155 rfl ?_
    refine go_sipush (240) K H d1_156 (by decide) ?_
    refine go_icmp_lt K H d1_159 (fun c159 => ?_) (fun c159 => ?_)
    · refine go_iconst (-1) K H d1_273 (by decide) ?_
      exact go_iret K H d1_274 rfl (by decide) (by decide) (⟨by (try simp only [or_true, true_or, and_true, true_and, not_true_eq_false, not_false_eq_true, Int32.lt_iff_toInt_lt, Int32.le_iff_toInt_le, ← Int32.toInt_inj, Int64.lt_iff_toInt_lt, Int64.le_iff_toInt_le, ← Int64.toInt_inj, Int32.reduceToInt, Int64.reduceToInt, ne_eq] at *); rw [ex5 (by omega) (by omega)] <;> omega, rfl⟩)
    · refine go_iloadN K H d1_162 rfl ?_
      refine go_sipush (244) K H d1_163 (by decide) ?_
      refine go_icmp_gt K H d1_166 (fun c166 => ?_) (fun c166 => ?_)
      · refine go_iconst (-1) K H d1_273 (by decide) ?_
        exact go_iret K H d1_274 rfl (by decide) (by decide) (⟨by (try simp only [or_true, true_or, and_true, true_and, not_true_eq_false, not_false_eq_true, Int32.lt_iff_toInt_lt, Int32.le_iff_toInt_le, ← Int32.toInt_inj, Int64.lt_iff_toInt_lt, Int64.le_iff_toInt_le, ← Int64.toInt_inj, Int32.reduceToInt, Int64.reduceToInt, ne_eq] at *); rw [ex5 (by omega) (by omega)] <;> omega, rfl⟩)
      · refine go_iloadN K H d1_169 rfl ?_
        refine go_sipush (240) K H d1_170 (by decide) ?_
        have J185 : ∀ (lo : Int32) (hlo : (u0.toInt = 240 ∧ lo.toInt = 144) ∨ (u0.toInt ≠ 240 ∧ lo.toInt = 128)), Go w (RI fun z h => z.toInt = expS u0.toInt u1.toInt u2.toInt u3.toInt u4.toInt ∧ h0 = h) T 185 #[.val (.int u0), .val (.int u1), .val (.int u2), .val (.int u3), .val (.int u4), .unset, .unset] [(.int lo)] := by
          intro lo hlo
          refine go_istore K H d1_185 (L' := #[.val (.int u0), .val (.int u1), .val (.int u2), .val (.int u3), .val (.int u4), .val (.int lo), .unset]) rfl ?_
          refine go_iloadN K H d1_187 rfl ?_
          refine go_sipush (244) K H d1_188 (by decide) ?_
          have J203 : ∀ (hi : Int32) (hhi : (u0.toInt = 244 ∧ hi.toInt = 143) ∨ (u0.toInt ≠ 244 ∧ hi.toInt = 191)), Go w (RI fun z h => z.toInt = expS u0.toInt u1.toInt u2.toInt u3.toInt u4.toInt ∧ h0 = h) T 203 #[.val (.int u0), .val (.int u1), .val (.int u2), .val (.int u3), .val (.int u4), .val (.int lo), .unset] [(.int hi)] := by
            intro hi hhi
            refine go_istore K H d1_203 (L' := #[.val (.int u0), .val (.int u1), .val (.int u2), .val (.int u3), .val (.int u4), .val (.int lo), .val (.int hi)]) rfl ?_
            refine go_iload K H d1_205 rfl ?_
            refine go_iconst (4) K H d1_207 (by decide) ?_
            refine go_icmp_lt K H d1_208 (fun c208 => ?_) (fun c208 => ?_)
            · refine go_iconst (-1) K H d1_237 (by decide) ?_
              exact go_iret K H d1_238 rfl (by decide) (by decide) (⟨by (try simp only [or_true, true_or, and_true, true_and, not_true_eq_false, not_false_eq_true, Int32.lt_iff_toInt_lt, Int32.le_iff_toInt_le, ← Int32.toInt_inj, Int64.lt_iff_toInt_lt, Int64.le_iff_toInt_le, ← Int64.toInt_inj, Int32.reduceToInt, Int64.reduceToInt, ne_eq] at *); rw [ex4 (by omega) (by omega)]; (repeat' split) <;> omega, rfl⟩)
            · refine go_iloadN K H d1_211 rfl ?_
              refine go_iload K H d1_212 rfl ?_
              refine go_icmp_lt K H d1_214 (fun c214 => ?_) (fun c214 => ?_)
              · refine go_iconst (-1) K H d1_237 (by decide) ?_
                exact go_iret K H d1_238 rfl (by decide) (by decide) (⟨by (try simp only [or_true, true_or, and_true, true_and, not_true_eq_false, not_false_eq_true, Int32.lt_iff_toInt_lt, Int32.le_iff_toInt_le, ← Int32.toInt_inj, Int64.lt_iff_toInt_lt, Int64.le_iff_toInt_le, ← Int64.toInt_inj, Int32.reduceToInt, Int64.reduceToInt, ne_eq] at *); rw [ex4 (by omega) (by omega)]; (repeat' split) <;> omega, rfl⟩)
              · refine go_iloadN K H d1_217 rfl ?_
                refine go_iload K H d1_218 rfl ?_
                refine go_icmp_gt K H d1_220 (fun c220 => ?_) (fun c220 => ?_)
                · refine go_iconst (-1) K H d1_237 (by decide) ?_
                  exact go_iret K H d1_238 rfl (by decide) (by decide) (⟨by (try simp only [or_true, true_or, and_true, true_and, not_true_eq_false, not_false_eq_true, Int32.lt_iff_toInt_lt, Int32.le_iff_toInt_le, ← Int32.toInt_inj, Int64.lt_iff_toInt_lt, Int64.le_iff_toInt_le, ← Int64.toInt_inj, Int32.reduceToInt, Int64.reduceToInt, ne_eq] at *); rw [ex4 (by omega) (by omega)]; (repeat' split) <;> omega, rfl⟩)
                · refine go_iloadN K H d1_223 rfl ?_
                  refine go_callS [(.int u2)] K H d1_224 (hw _ (List.mem_of_getElem? (i := 13) rfl)) (hw _ (List.mem_of_getElem? (i := 14) rfl)) (hw _ (List.mem_of_getElem? (i := 7) rfl)) (hw _ (List.mem_of_getElem? (i := 15) rfl)) (st' := []) (by decide) (rm1 Z a0 hw _ _ n0 Z0) pd0 rfl rfl rfl (by decide) (W := 0) rfl (by decide) (by decide) (by decide) fun T1 h1 v1 H1 q1 => ?_
                  obtain ⟨z1, rfl, q1, rfl⟩ := q1
                  show Go w _ _ 227 #[.val (.int u0), .val (.int u1), .val (.int u2), .val (.int u3), .val (.int u4), .val (.int lo), .val (.int hi)] [(.int z1)]
                  refine go_if_eq K H1 d1_227 (fun cc => ?_) (fun cc => ?_)
                  · rw [q1, bI_eq0] at cc
                    refine go_iconst (-1) K H1 d1_237 (by decide) ?_
                    exact go_iret K H1 d1_238 rfl (by decide) (by decide) (⟨by (try simp only [or_true, true_or, and_true, true_and, not_true_eq_false, not_false_eq_true, Int32.lt_iff_toInt_lt, Int32.le_iff_toInt_le, ← Int32.toInt_inj, Int64.lt_iff_toInt_lt, Int64.le_iff_toInt_le, ← Int64.toInt_inj, Int32.reduceToInt, Int64.reduceToInt, ne_eq] at *); rw [ex4 (by omega) (by omega)]; (repeat' split) <;> omega, rfl⟩)
                  · rw [q1, bI_ne0] at cc
                    refine go_iloadN K H1 d1_230 rfl ?_
                    refine go_callS [(.int u3)] K H1 d1_231 (hw _ (List.mem_of_getElem? (i := 13) rfl)) (hw _ (List.mem_of_getElem? (i := 14) rfl)) (hw _ (List.mem_of_getElem? (i := 7) rfl)) (hw _ (List.mem_of_getElem? (i := 15) rfl)) (st' := []) (by decide) (rm1 Z a0 hw _ _ n0 Z0) pd0 rfl rfl rfl (by decide) (W := 0) rfl (by decide) (by decide) (by decide) fun T2 h2 v2 H2 q2 => ?_
                    obtain ⟨z2, rfl, q2, rfl⟩ := q2
                    show Go w _ _ 234 #[.val (.int u0), .val (.int u1), .val (.int u2), .val (.int u3), .val (.int u4), .val (.int lo), .val (.int hi)] [(.int z2)]
                    refine go_if_ne K H2 d1_234 (fun cc => ?_) (fun cc => ?_)
                    · rw [q2, bI_ne0] at cc
                      refine go_iloadN K H2 d1_239 rfl ?_
                      refine go_sipush (240) K H2 d1_240 (by decide) ?_
                      refine go_isub K H2 d1_243 fun v3 ev3 => ?_
                      have fv3 := f_isub ev3
                      have rv3 := rng32 v3
                      refine go_ldcI (262144) K H2 d1_244 (hw _ (List.mem_of_getElem? (i := 16) rfl)) ?_
                      refine go_imul K H2 d1_246 fun v4 ev4 => ?_
                      have fv4 := f_imul ev4
                      have rv4 := rng32 v4
                      refine go_iloadN K H2 d1_247 rfl ?_
                      refine go_sipush (128) K H2 d1_248 (by decide) ?_
                      refine go_isub K H2 d1_251 fun v5 ev5 => ?_
                      have fv5 := f_isub ev5
                      have rv5 := rng32 v5
                      refine go_sipush (4096) K H2 d1_252 (by decide) ?_
                      refine go_imul K H2 d1_255 fun v6 ev6 => ?_
                      have fv6 := f_imul ev6
                      have rv6 := rng32 v6
                      refine go_iadd K H2 d1_256 fun v7 ev7 => ?_
                      have fv7 := f_iadd ev7
                      have rv7 := rng32 v7
                      refine go_iloadN K H2 d1_257 rfl ?_
                      refine go_sipush (128) K H2 d1_258 (by decide) ?_
                      refine go_isub K H2 d1_261 fun v8 ev8 => ?_
                      have fv8 := f_isub ev8
                      have rv8 := rng32 v8
                      refine go_bipush (64) K H2 d1_262 (by decide) ?_
                      refine go_imul K H2 d1_264 fun v9 ev9 => ?_
                      have fv9 := f_imul ev9
                      have rv9 := rng32 v9
                      refine go_iadd K H2 d1_265 fun v10 ev10 => ?_
                      have fv10 := f_iadd ev10
                      have rv10 := rng32 v10
                      refine go_iloadN K H2 d1_266 rfl ?_
                      refine go_sipush (128) K H2 d1_267 (by decide) ?_
                      refine go_isub K H2 d1_270 fun v11 ev11 => ?_
                      have fv11 := f_isub ev11
                      have rv11 := rng32 v11
                      refine go_iadd K H2 d1_271 fun v12 ev12 => ?_
                      have fv12 := f_iadd ev12
                      have rv12 := rng32 v12
                      exact go_iret K H2 d1_272 rfl (by decide) (by decide) (⟨by (try simp only [or_true, true_or, and_true, true_and, not_true_eq_false, not_false_eq_true, Int32.lt_iff_toInt_lt, Int32.le_iff_toInt_le, ← Int32.toInt_inj, Int64.lt_iff_toInt_lt, Int64.le_iff_toInt_le, ← Int64.toInt_inj, Int32.reduceToInt, Int64.reduceToInt, ne_eq] at *); rw [ex4 (by omega) (by omega)]; (repeat' split) <;> omega, rfl⟩)
                    · rw [q2, bI_eq0] at cc
                      refine go_iconst (-1) K H2 d1_237 (by decide) ?_
                      exact go_iret K H2 d1_238 rfl (by decide) (by decide) (⟨by (try simp only [or_true, true_or, and_true, true_and, not_true_eq_false, not_false_eq_true, Int32.lt_iff_toInt_lt, Int32.le_iff_toInt_le, ← Int32.toInt_inj, Int64.lt_iff_toInt_lt, Int64.le_iff_toInt_le, ← Int64.toInt_inj, Int32.reduceToInt, Int64.reduceToInt, ne_eq] at *); rw [ex4 (by omega) (by omega)]; (repeat' split) <;> omega, rfl⟩)
          refine go_icmp_ne K H d1_191 (fun c191 => ?_) (fun c191 => ?_)
          · refine go_sipush (191) K H d1_200 (by decide) ?_
            exact J203 _ (by (try simp only [or_true, true_or, and_true, true_and, not_true_eq_false, not_false_eq_true, Int32.lt_iff_toInt_lt, Int32.le_iff_toInt_le, ← Int32.toInt_inj, Int64.lt_iff_toInt_lt, Int64.le_iff_toInt_le, ← Int64.toInt_inj, Int32.reduceToInt, Int64.reduceToInt, ne_eq] at *) <;> omega)
          · refine go_sipush (143) K H d1_194 (by decide) ?_
            refine go_goto K H d1_197 ?_
            exact J203 _ (by (try simp only [or_true, true_or, and_true, true_and, not_true_eq_false, not_false_eq_true, Int32.lt_iff_toInt_lt, Int32.le_iff_toInt_le, ← Int32.toInt_inj, Int64.lt_iff_toInt_lt, Int64.le_iff_toInt_le, ← Int64.toInt_inj, Int32.reduceToInt, Int64.reduceToInt, ne_eq] at *) <;> omega)
        refine go_icmp_ne K H d1_173 (fun c173 => ?_) (fun c173 => ?_)
        · refine go_sipush (128) K H d1_182 (by decide) ?_
          exact J185 _ (by (try simp only [or_true, true_or, and_true, true_and, not_true_eq_false, not_false_eq_true, Int32.lt_iff_toInt_lt, Int32.le_iff_toInt_le, ← Int32.toInt_inj, Int64.lt_iff_toInt_lt, Int64.le_iff_toInt_le, ← Int64.toInt_inj, Int32.reduceToInt, Int64.reduceToInt, ne_eq] at *) <;> omega)
        · refine go_sipush (144) K H d1_176 (by decide) ?_
          refine go_goto K H d1_179 ?_
          exact J185 _ (by (try simp only [or_true, true_or, and_true, true_and, not_true_eq_false, not_false_eq_true, Int32.lt_iff_toInt_lt, Int32.le_iff_toInt_le, ← Int32.toInt_inj, Int64.lt_iff_toInt_lt, Int64.le_iff_toInt_le, ← Int64.toInt_inj, Int32.reduceToInt, Int64.reduceToInt, ne_eq] at *) <;> omega)
  have J53 : ∀ (hb : (u0.toInt < 194 ∨ 223 < u0.toInt) ∧ 128 ≤ u0.toInt), Go w (RI fun z h => z.toInt = expS u0.toInt u1.toInt u2.toInt u3.toInt u4.toInt ∧ h0 = h) T 53 #[.val (.int u0), .val (.int u1), .val (.int u2), .val (.int u3), .val (.int u4), .unset, .unset] [] := by
    intro hb
    refine go_iloadN K H d1_53 rfl ?_
    refine go_sipush (224) K H d1_54 (by decide) ?_
    refine go_icmp_lt K H d1_57 (fun c57 => ?_) (fun c57 => ?_)
    · exact J155 (by (try simp only [or_true, true_or, and_true, true_and, not_true_eq_false, not_false_eq_true, Int32.lt_iff_toInt_lt, Int32.le_iff_toInt_le, ← Int32.toInt_inj, Int64.lt_iff_toInt_lt, Int64.le_iff_toInt_le, ← Int64.toInt_inj, Int32.reduceToInt, Int64.reduceToInt, ne_eq] at *) <;> omega)
    · refine go_iloadN K H d1_60 rfl ?_
      refine go_sipush (239) K H d1_61 (by decide) ?_
      refine go_icmp_gt K H d1_64 (fun c64 => ?_) (fun c64 => ?_)
      · exact J155 (by (try simp only [or_true, true_or, and_true, true_and, not_true_eq_false, not_false_eq_true, Int32.lt_iff_toInt_lt, Int32.le_iff_toInt_le, ← Int32.toInt_inj, Int64.lt_iff_toInt_lt, Int64.le_iff_toInt_le, ← Int64.toInt_inj, Int32.reduceToInt, Int64.reduceToInt, ne_eq] at *) <;> omega)
      · refine go_iloadN K H d1_67 rfl ?_
        refine go_sipush (224) K H d1_68 (by decide) ?_
        have J83 : ∀ (lo : Int32) (hlo : (u0.toInt = 224 ∧ lo.toInt = 160) ∨ (u0.toInt ≠ 224 ∧ lo.toInt = 128)), Go w (RI fun z h => z.toInt = expS u0.toInt u1.toInt u2.toInt u3.toInt u4.toInt ∧ h0 = h) T 83 #[.val (.int u0), .val (.int u1), .val (.int u2), .val (.int u3), .val (.int u4), .unset, .unset] [(.int lo)] := by
          intro lo hlo
          refine go_istore K H d1_83 (L' := #[.val (.int u0), .val (.int u1), .val (.int u2), .val (.int u3), .val (.int u4), .val (.int lo), .unset]) rfl ?_
          refine go_iloadN K H d1_85 rfl ?_
          refine go_sipush (237) K H d1_86 (by decide) ?_
          have J101 : ∀ (hi : Int32) (hhi : (u0.toInt = 237 ∧ hi.toInt = 159) ∨ (u0.toInt ≠ 237 ∧ hi.toInt = 191)), Go w (RI fun z h => z.toInt = expS u0.toInt u1.toInt u2.toInt u3.toInt u4.toInt ∧ h0 = h) T 101 #[.val (.int u0), .val (.int u1), .val (.int u2), .val (.int u3), .val (.int u4), .val (.int lo), .unset] [(.int hi)] := by
            intro hi hhi
            refine go_istore K H d1_101 (L' := #[.val (.int u0), .val (.int u1), .val (.int u2), .val (.int u3), .val (.int u4), .val (.int lo), .val (.int hi)]) rfl ?_
            refine go_iload K H d1_103 rfl ?_
            refine go_iconst (3) K H d1_105 (by decide) ?_
            refine go_icmp_lt K H d1_106 (fun c106 => ?_) (fun c106 => ?_)
            · refine go_iconst (-1) K H d1_128 (by decide) ?_
              exact go_iret K H d1_129 rfl (by decide) (by decide) (⟨by (try simp only [or_true, true_or, and_true, true_and, not_true_eq_false, not_false_eq_true, Int32.lt_iff_toInt_lt, Int32.le_iff_toInt_le, ← Int32.toInt_inj, Int64.lt_iff_toInt_lt, Int64.le_iff_toInt_le, ← Int64.toInt_inj, Int32.reduceToInt, Int64.reduceToInt, ne_eq] at *); rw [ex3 (by omega) (by omega)]; split <;> omega, rfl⟩)
            · refine go_iloadN K H d1_109 rfl ?_
              refine go_iload K H d1_110 rfl ?_
              refine go_icmp_lt K H d1_112 (fun c112 => ?_) (fun c112 => ?_)
              · refine go_iconst (-1) K H d1_128 (by decide) ?_
                exact go_iret K H d1_129 rfl (by decide) (by decide) (⟨by (try simp only [or_true, true_or, and_true, true_and, not_true_eq_false, not_false_eq_true, Int32.lt_iff_toInt_lt, Int32.le_iff_toInt_le, ← Int32.toInt_inj, Int64.lt_iff_toInt_lt, Int64.le_iff_toInt_le, ← Int64.toInt_inj, Int32.reduceToInt, Int64.reduceToInt, ne_eq] at *); rw [ex3 (by omega) (by omega)]; split <;> omega, rfl⟩)
              · refine go_iloadN K H d1_115 rfl ?_
                refine go_iload K H d1_116 rfl ?_
                refine go_icmp_gt K H d1_118 (fun c118 => ?_) (fun c118 => ?_)
                · refine go_iconst (-1) K H d1_128 (by decide) ?_
                  exact go_iret K H d1_129 rfl (by decide) (by decide) (⟨by (try simp only [or_true, true_or, and_true, true_and, not_true_eq_false, not_false_eq_true, Int32.lt_iff_toInt_lt, Int32.le_iff_toInt_le, ← Int32.toInt_inj, Int64.lt_iff_toInt_lt, Int64.le_iff_toInt_le, ← Int64.toInt_inj, Int32.reduceToInt, Int64.reduceToInt, ne_eq] at *); rw [ex3 (by omega) (by omega)]; split <;> omega, rfl⟩)
                · refine go_iloadN K H d1_121 rfl ?_
                  refine go_callS [(.int u2)] K H d1_122 (hw _ (List.mem_of_getElem? (i := 13) rfl)) (hw _ (List.mem_of_getElem? (i := 14) rfl)) (hw _ (List.mem_of_getElem? (i := 7) rfl)) (hw _ (List.mem_of_getElem? (i := 15) rfl)) (st' := []) (by decide) (rm1 Z a0 hw _ _ n0 Z0) pd0 rfl rfl rfl (by decide) (W := 0) rfl (by decide) (by decide) (by decide) fun T13 h13 v13 H13 q13 => ?_
                  obtain ⟨z13, rfl, q1, rfl⟩ := q13
                  show Go w _ _ 125 #[.val (.int u0), .val (.int u1), .val (.int u2), .val (.int u3), .val (.int u4), .val (.int lo), .val (.int hi)] [(.int z13)]
                  refine go_if_ne K H13 d1_125 (fun cc => ?_) (fun cc => ?_)
                  · rw [q1, bI_ne0] at cc
                    refine go_iloadN K H13 d1_130 rfl ?_
                    refine go_sipush (224) K H13 d1_131 (by decide) ?_
                    refine go_isub K H13 d1_134 fun v14 ev14 => ?_
                    have fv14 := f_isub ev14
                    have rv14 := rng32 v14
                    refine go_sipush (4096) K H13 d1_135 (by decide) ?_
                    refine go_imul K H13 d1_138 fun v15 ev15 => ?_
                    have fv15 := f_imul ev15
                    have rv15 := rng32 v15
                    refine go_iloadN K H13 d1_139 rfl ?_
                    refine go_sipush (128) K H13 d1_140 (by decide) ?_
                    refine go_isub K H13 d1_143 fun v16 ev16 => ?_
                    have fv16 := f_isub ev16
                    have rv16 := rng32 v16
                    refine go_bipush (64) K H13 d1_144 (by decide) ?_
                    refine go_imul K H13 d1_146 fun v17 ev17 => ?_
                    have fv17 := f_imul ev17
                    have rv17 := rng32 v17
                    refine go_iadd K H13 d1_147 fun v18 ev18 => ?_
                    have fv18 := f_iadd ev18
                    have rv18 := rng32 v18
                    refine go_iloadN K H13 d1_148 rfl ?_
                    refine go_sipush (128) K H13 d1_149 (by decide) ?_
                    refine go_isub K H13 d1_152 fun v19 ev19 => ?_
                    have fv19 := f_isub ev19
                    have rv19 := rng32 v19
                    refine go_iadd K H13 d1_153 fun v20 ev20 => ?_
                    have fv20 := f_iadd ev20
                    have rv20 := rng32 v20
                    exact go_iret K H13 d1_154 rfl (by decide) (by decide) (⟨by (try simp only [or_true, true_or, and_true, true_and, not_true_eq_false, not_false_eq_true, Int32.lt_iff_toInt_lt, Int32.le_iff_toInt_le, ← Int32.toInt_inj, Int64.lt_iff_toInt_lt, Int64.le_iff_toInt_le, ← Int64.toInt_inj, Int32.reduceToInt, Int64.reduceToInt, ne_eq] at *); rw [ex3 (by omega) (by omega)]; split <;> omega, rfl⟩)
                  · rw [q1, bI_eq0] at cc
                    refine go_iconst (-1) K H13 d1_128 (by decide) ?_
                    exact go_iret K H13 d1_129 rfl (by decide) (by decide) (⟨by (try simp only [or_true, true_or, and_true, true_and, not_true_eq_false, not_false_eq_true, Int32.lt_iff_toInt_lt, Int32.le_iff_toInt_le, ← Int32.toInt_inj, Int64.lt_iff_toInt_lt, Int64.le_iff_toInt_le, ← Int64.toInt_inj, Int32.reduceToInt, Int64.reduceToInt, ne_eq] at *); rw [ex3 (by omega) (by omega)]; split <;> omega, rfl⟩)
          refine go_icmp_ne K H d1_89 (fun c89 => ?_) (fun c89 => ?_)
          · refine go_sipush (191) K H d1_98 (by decide) ?_
            exact J101 _ (by (try simp only [or_true, true_or, and_true, true_and, not_true_eq_false, not_false_eq_true, Int32.lt_iff_toInt_lt, Int32.le_iff_toInt_le, ← Int32.toInt_inj, Int64.lt_iff_toInt_lt, Int64.le_iff_toInt_le, ← Int64.toInt_inj, Int32.reduceToInt, Int64.reduceToInt, ne_eq] at *) <;> omega)
          · refine go_sipush (159) K H d1_92 (by decide) ?_
            refine go_goto K H d1_95 ?_
            exact J101 _ (by (try simp only [or_true, true_or, and_true, true_and, not_true_eq_false, not_false_eq_true, Int32.lt_iff_toInt_lt, Int32.le_iff_toInt_le, ← Int32.toInt_inj, Int64.lt_iff_toInt_lt, Int64.le_iff_toInt_le, ← Int64.toInt_inj, Int32.reduceToInt, Int64.reduceToInt, ne_eq] at *) <;> omega)
        refine go_icmp_ne K H d1_71 (fun c71 => ?_) (fun c71 => ?_)
        · refine go_sipush (128) K H d1_80 (by decide) ?_
          exact J83 _ (by (try simp only [or_true, true_or, and_true, true_and, not_true_eq_false, not_false_eq_true, Int32.lt_iff_toInt_lt, Int32.le_iff_toInt_le, ← Int32.toInt_inj, Int64.lt_iff_toInt_lt, Int64.le_iff_toInt_le, ← Int64.toInt_inj, Int32.reduceToInt, Int64.reduceToInt, ne_eq] at *) <;> omega)
        · refine go_sipush (160) K H d1_74 (by decide) ?_
          refine go_goto K H d1_77 ?_
          exact J83 _ (by (try simp only [or_true, true_or, and_true, true_and, not_true_eq_false, not_false_eq_true, Int32.lt_iff_toInt_lt, Int32.le_iff_toInt_le, ← Int32.toInt_inj, Int64.lt_iff_toInt_lt, Int64.le_iff_toInt_le, ← Int64.toInt_inj, Int32.reduceToInt, Int64.reduceToInt, ne_eq] at *) <;> omega)
  refine go_iloadN K H d1_0 rfl ?_
  refine go_sipush (128) K H d1_1 (by decide) ?_
  refine go_icmp_ge K H d1_4 (fun c4 => ?_) (fun c4 => ?_)
  · refine go_iloadN K H d1_9 rfl ?_
    refine go_sipush (194) K H d1_10 (by decide) ?_
    refine go_icmp_lt K H d1_13 (fun c13 => ?_) (fun c13 => ?_)
    · exact J53 (by (try simp only [or_true, true_or, and_true, true_and, not_true_eq_false, not_false_eq_true, Int32.lt_iff_toInt_lt, Int32.le_iff_toInt_le, ← Int32.toInt_inj, Int64.lt_iff_toInt_lt, Int64.le_iff_toInt_le, ← Int64.toInt_inj, Int32.reduceToInt, Int64.reduceToInt, ne_eq] at *) <;> omega)
    · refine go_iloadN K H d1_16 rfl ?_
      refine go_sipush (223) K H d1_17 (by decide) ?_
      refine go_icmp_gt K H d1_20 (fun c20 => ?_) (fun c20 => ?_)
      · exact J53 (by (try simp only [or_true, true_or, and_true, true_and, not_true_eq_false, not_false_eq_true, Int32.lt_iff_toInt_lt, Int32.le_iff_toInt_le, ← Int32.toInt_inj, Int64.lt_iff_toInt_lt, Int64.le_iff_toInt_le, ← Int64.toInt_inj, Int32.reduceToInt, Int64.reduceToInt, ne_eq] at *) <;> omega)
      · refine go_iload K H d1_23 rfl ?_
        refine go_iconst (2) K H d1_25 (by decide) ?_
        refine go_icmp_lt K H d1_26 (fun c26 => ?_) (fun c26 => ?_)
        · refine go_iconst (-1) K H d1_36 (by decide) ?_
          exact go_iret K H d1_37 rfl (by decide) (by decide) (⟨by (try simp only [or_true, true_or, and_true, true_and, not_true_eq_false, not_false_eq_true, Int32.lt_iff_toInt_lt, Int32.le_iff_toInt_le, ← Int32.toInt_inj, Int64.lt_iff_toInt_lt, Int64.le_iff_toInt_le, ← Int64.toInt_inj, Int32.reduceToInt, Int64.reduceToInt, ne_eq] at *); rw [ex2 (by omega) (by omega)]; (repeat' split) <;> omega, rfl⟩)
        · refine go_iloadN K H d1_29 rfl ?_
          refine go_callS [(.int u1)] K H d1_30 (hw _ (List.mem_of_getElem? (i := 13) rfl)) (hw _ (List.mem_of_getElem? (i := 14) rfl)) (hw _ (List.mem_of_getElem? (i := 7) rfl)) (hw _ (List.mem_of_getElem? (i := 15) rfl)) (st' := []) (by decide) (rm1 Z a0 hw _ _ n0 Z0) pd0 rfl rfl rfl (by decide) (W := 0) rfl (by decide) (by decide) (by decide) fun T21 h21 v21 H21 q21 => ?_
          obtain ⟨z21, rfl, q1, rfl⟩ := q21
          show Go w _ _ 33 #[.val (.int u0), .val (.int u1), .val (.int u2), .val (.int u3), .val (.int u4), .unset, .unset] [(.int z21)]
          refine go_if_ne K H21 d1_33 (fun cc => ?_) (fun cc => ?_)
          · rw [q1, bI_ne0] at cc
            refine go_iloadN K H21 d1_38 rfl ?_
            refine go_sipush (192) K H21 d1_39 (by decide) ?_
            refine go_isub K H21 d1_42 fun v22 ev22 => ?_
            have fv22 := f_isub ev22
            have rv22 := rng32 v22
            refine go_bipush (64) K H21 d1_43 (by decide) ?_
            refine go_imul K H21 d1_45 fun v23 ev23 => ?_
            have fv23 := f_imul ev23
            have rv23 := rng32 v23
            refine go_iloadN K H21 d1_46 rfl ?_
            refine go_sipush (128) K H21 d1_47 (by decide) ?_
            refine go_isub K H21 d1_50 fun v24 ev24 => ?_
            have fv24 := f_isub ev24
            have rv24 := rng32 v24
            refine go_iadd K H21 d1_51 fun v25 ev25 => ?_
            have fv25 := f_iadd ev25
            have rv25 := rng32 v25
            exact go_iret K H21 d1_52 rfl (by decide) (by decide) (⟨by (try simp only [or_true, true_or, and_true, true_and, not_true_eq_false, not_false_eq_true, Int32.lt_iff_toInt_lt, Int32.le_iff_toInt_le, ← Int32.toInt_inj, Int64.lt_iff_toInt_lt, Int64.le_iff_toInt_le, ← Int64.toInt_inj, Int32.reduceToInt, Int64.reduceToInt, ne_eq] at *); rw [ex2 (by omega) (by omega)]; (repeat' split) <;> omega, rfl⟩)
          · rw [q1, bI_eq0] at cc
            refine go_iconst (-1) K H21 d1_36 (by decide) ?_
            exact go_iret K H21 d1_37 rfl (by decide) (by decide) (⟨by (try simp only [or_true, true_or, and_true, true_and, not_true_eq_false, not_false_eq_true, Int32.lt_iff_toInt_lt, Int32.le_iff_toInt_le, ← Int32.toInt_inj, Int64.lt_iff_toInt_lt, Int64.le_iff_toInt_le, ← Int64.toInt_inj, Int32.reduceToInt, Int64.reduceToInt, ne_eq] at *); rw [ex2 (by omega) (by omega)]; (repeat' split) <;> omega, rfl⟩)
  · refine go_iloadN K H d1_7 rfl ?_
    exact go_iret K H d1_8 rfl (by decide) (by decide) (⟨by (try simp only [or_true, true_or, and_true, true_and, not_true_eq_false, not_false_eq_true, Int32.lt_iff_toInt_lt, Int32.le_iff_toInt_le, ← Int32.toInt_inj, Int64.lt_iff_toInt_lt, Int64.le_iff_toInt_le, ← Int64.toInt_inj, Int32.reduceToInt, Int64.reduceToInt, ne_eq] at *); rw [ex1 (by omega)] <;> omega, rfl⟩)
set_option maxRecDepth 65536 in
set_option maxHeartbeats 40000000 in
theorem rm3 (Z : State) (a0 : Array Value) (hw : ∀ d ∈ tables_1, d.before a0 Z = true) (a : Addr) (u0 : Int32) (u1 : Int32) (h0 : Heap) (n0 : Nat) (Z0 : n0 ≤ h0.size) (vs : List Value) (sN : Nat) (y0 y1 y2 y3 : Int32) (A : VA Z h0 a .byte vs) (hs : u0.toInt = (sN : Int)) (hs1 : sN ≤ 1) (h0v : vs[sN]? = some (.int y0)) (h1v : vs[sN + 1]? = some (.int y1)) (h2v : vs[sN + 2]? = some (.int y2)) (h3v : vs[sN + 3]? = some (.int y3)) (hav : 1 ≤ u1.toInt - u0.toInt ∧ u1.toInt - u0.toInt ≤ 4) (lau : Launch) :
    Con lau Z (⟨"com/example/loomtrace/loomtrace/Utf8", "decode", "([BII)I"⟩ : MethodName) prog_102_method_2_code 8 (some .int) ({ frames := 0, cells := 0, slots := 0, locals := 0 } : Room) #[(.ref a), (.int u0), (.int u1)] h0 n0 (RI fun z h => z.toInt = expS (y0.toInt % 256) (y1.toInt % 256) (y2.toInt % 256) (y3.toInt % 256) (u1.toInt - u0.toInt) ∧ h0 = h) := by
  refine con_intro pn2 (L := #[.val (.ref a), .val (.int u0), .val (.int u1), .unset, .unset, .unset, .unset, .unset]) (fun m => by first | (simp [entryFrame, mkF, argsToLocals, Value.category, maxLocals]; done) | rfl) Z0 (fun w T K H => ?_)
  refine go_aloadN K H d2_0 rfl rfl ?_
  refine go_iloadN K H d2_1 rfl ?_
  refine go_baload (sN) K H d2_2 (A) (hs) (h0v) ?_
  refine go_sipush (255) K H d2_3 (by decide) ?_
  refine go_iand K H d2_6 fun v1 ev1 => ?_
  have fv1 := f_mask 256 8 ev1 (by decide) (by decide) (by decide)
  (try simp only [Int32.reduceToInt] at fv1)
  refine go_istoreN K H d2_7 (L' := #[.val (.ref a), .val (.int u0), .val (.int u1), .val (.int v1), .unset, .unset, .unset, .unset]) rfl ?_
  refine go_iloadN K H d2_8 rfl ?_
  refine go_sipush (128) K H d2_9 (by decide) ?_
  have rl : 0 ≤ v1.toInt ∧ v1.toInt < 256 := by rw [fv1]; omega
  refine go_icmp_ge K H d2_12 (fun c12 => ?_) (fun c12 => ?_)
  · (try simp only [Int32.lt_iff_toInt_lt, Int32.le_iff_toInt_le, ← Int32.toInt_inj, Int32.reduceToInt, ne_eq] at c12)
    refine go_iloadN K H d2_17 rfl ?_
    refine go_sipush (224) K H d2_18 (by decide) ?_
    refine go_iand K H d2_21 fun v2 ev2 => ?_
    refine go_sipush (192) K H d2_22 (by decide) ?_
    have r224 := and224 ev2 rl.1 rl.2
    (try simp only [Int32.lt_iff_toInt_lt, Int32.le_iff_toInt_le, ← Int32.toInt_inj, Int32.reduceToInt, ne_eq] at r224)
    refine go_icmp_ne K H d2_25 (fun c25 => ?_) (fun c25 => ?_)
    · (try simp only [Int32.lt_iff_toInt_lt, Int32.le_iff_toInt_le, ← Int32.toInt_inj, Int32.reduceToInt, ne_eq] at c25)
      refine go_iloadN K H d2_40 rfl ?_
      refine go_sipush (240) K H d2_41 (by decide) ?_
      refine go_iand K H d2_44 fun v3 ev3 => ?_
      refine go_sipush (224) K H d2_45 (by decide) ?_
      have r240 := and240 ev3 rl.1 rl.2
      (try simp only [Int32.lt_iff_toInt_lt, Int32.le_iff_toInt_le, ← Int32.toInt_inj, Int32.reduceToInt, ne_eq] at r240)
      refine go_icmp_ne K H d2_48 (fun c48 => ?_) (fun c48 => ?_)
      · (try simp only [Int32.lt_iff_toInt_lt, Int32.le_iff_toInt_le, ← Int32.toInt_inj, Int32.reduceToInt, ne_eq] at c48)
        refine go_iloadN K H d2_63 rfl ?_
        refine go_sipush (248) K H d2_64 (by decide) ?_
        refine go_iand K H d2_67 fun v4 ev4 => ?_
        refine go_sipush (240) K H d2_68 (by decide) ?_
        have r248 := and248 ev4 rl.1 rl.2
        (try simp only [Int32.lt_iff_toInt_lt, Int32.le_iff_toInt_le, ← Int32.toInt_inj, Int32.reduceToInt, ne_eq] at r248)
        refine go_icmp_ne K H d2_71 (fun c71 => ?_) (fun c71 => ?_)
        · (try simp only [Int32.lt_iff_toInt_lt, Int32.le_iff_toInt_le, ← Int32.toInt_inj, Int32.reduceToInt, ne_eq] at c71)
          refine go_iconst (-1) K H d2_86 (by decide) ?_
          exact go_iret K H d2_87 rfl (by decide) (by decide) (⟨by (try simp only [Int32.reduceToInt]); rw [ex5 (by omega) (by omega)] <;> omega, rfl⟩)
        · (try simp only [Int32.lt_iff_toInt_lt, Int32.le_iff_toInt_le, ← Int32.toInt_inj, Int32.reduceToInt, ne_eq] at c71)
          refine go_iconst (4) K H d2_74 (by decide) ?_
          refine go_istore K H d2_75 (L' := #[.val (.ref a), .val (.int u0), .val (.int u1), .val (.int v1), .val (.int 4), .unset, .unset, .unset]) rfl ?_
          refine go_iloadN K H d2_77 rfl ?_
          refine go_bipush (7) K H d2_78 (by decide) ?_
          refine go_iand K H d2_80 fun v5 ev5 => ?_
          have fv5 := f_mask 8 3 ev5 (by decide) (by decide) (by decide)
          (try simp only [Int32.reduceToInt] at fv5)
          refine go_istore K H d2_81 (L' := #[.val (.ref a), .val (.int u0), .val (.int u1), .val (.int v1), .val (.int 4), .val (.int v5), .unset, .unset]) rfl ?_
          refine go_goto K H d2_83 ?_
          refine go_iloadN K H d2_88 rfl ?_
          refine go_iloadN K H d2_89 rfl ?_
          refine go_isub K H d2_90 fun v6 ev6 => ?_
          have fv6 := f_isub ev6
          (try simp only [Int32.reduceToInt] at fv6)
          have rv6 := rng32 v6
          refine go_iload K H d2_91 rfl ?_
          refine go_icmp_ge K H d2_93 (fun c93 => ?_) (fun c93 => ?_)
          · (try simp only [Int32.lt_iff_toInt_lt, Int32.le_iff_toInt_le, ← Int32.toInt_inj, Int32.reduceToInt, ne_eq] at c93)
            refine go_iloadN K H d2_98 rfl ?_
            refine go_iconst (1) K H d2_99 (by decide) ?_
            refine go_iadd K H d2_100 fun v7 ev7 => ?_
            have fv7 := f_iadd ev7
            (try simp only [Int32.reduceToInt] at fv7)
            have rv7 := rng32 v7
            refine go_istore K H d2_101 (L' := #[.val (.ref a), .val (.int u0), .val (.int u1), .val (.int v1), .val (.int 4), .val (.int v5), .val (.int v7), .unset]) rfl ?_
            refine go_iload K H d2_103 rfl ?_
            refine go_iloadN K H d2_105 rfl ?_
            refine go_iload K H d2_106 rfl ?_
            refine go_iadd K H d2_108 fun v8 ev8 => ?_
            have fv8 := f_iadd ev8
            (try simp only [Int32.reduceToInt] at fv8)
            have rv8 := rng32 v8
            refine go_icmp_ge K H d2_109 (fun c109 => False.elim (by (try simp only [Int32.lt_iff_toInt_lt, Int32.le_iff_toInt_le, ← Int32.toInt_inj, Int32.reduceToInt, ne_eq] at c109) <;> omega)) (fun c109 => ?_)
            refine go_aloadN K H d2_112 rfl rfl ?_
            refine go_iload K H d2_113 rfl ?_
            refine go_baload (sN + 1) K H d2_115 (A) (by omega) (h1v) ?_
            refine go_sipush (255) K H d2_116 (by decide) ?_
            refine go_iand K H d2_119 fun v9 ev9 => ?_
            have fv9 := f_mask 256 8 ev9 (by decide) (by decide) (by decide)
            (try simp only [Int32.reduceToInt] at fv9)
            refine go_istore K H d2_120 (L' := #[.val (.ref a), .val (.int u0), .val (.int u1), .val (.int v1), .val (.int 4), .val (.int v5), .val (.int v7), .val (.int v9)]) rfl ?_
            refine go_iload K H d2_122 rfl ?_
            refine go_sipush (192) K H d2_124 (by decide) ?_
            refine go_iand K H d2_127 fun v10 ev10 => ?_
            refine go_sipush (128) K H d2_128 (by decide) ?_
            have rn1 : 0 ≤ v9.toInt ∧ v9.toInt < 256 := by rw [fv9]; omega
            have rm1 := and192 ev10 rn1.1 rn1.2
            (try simp only [Int32.lt_iff_toInt_lt, Int32.le_iff_toInt_le, ← Int32.toInt_inj, Int32.reduceToInt, ne_eq] at rm1)
            refine go_icmp_eq K H d2_131 (fun c131 => ?_) (fun c131 => ?_)
            · (try simp only [Int32.lt_iff_toInt_lt, Int32.le_iff_toInt_le, ← Int32.toInt_inj, Int32.reduceToInt, ne_eq] at c131)
              refine go_iload K H d2_136 rfl ?_
              refine go_bipush (6) K H d2_138 (by decide) ?_
              refine go_ishl K H d2_140 fun v11 ev11 => ?_
              have fv11 := f_ishl 64 6 ev11 (by decide) (by decide)
              (try simp only [Int32.reduceToInt] at fv11)
              have rv11 := rng32 v11
              refine go_iload K H d2_141 rfl ?_
              refine go_bipush (63) K H d2_143 (by decide) ?_
              refine go_iand K H d2_145 fun v12 ev12 => ?_
              have fv12 := f_mask 64 6 ev12 (by decide) (by decide) (by decide)
              (try simp only [Int32.reduceToInt] at fv12)
              refine go_ior K H d2_146 fun v13 ev13 => ?_
              have ro1 : v13.toInt = v11.toInt + v12.toInt := or_low ev13 (by omega) (by omega) (by omega) (by omega) (by omega)
              refine go_istore K H d2_147 (L' := #[.val (.ref a), .val (.int u0), .val (.int u1), .val (.int v1), .val (.int 4), .val (.int v13), .val (.int v7), .val (.int v9)]) rfl ?_
              obtain ⟨v14, ev14⟩ : ∃ z : Int32, z = v7 + Int32.ofInt (1) := ⟨_, rfl⟩
              refine go_iinc K H d2_149 rfl ev14 (L' := #[.val (.ref a), .val (.int u0), .val (.int u1), .val (.int v1), .val (.int 4), .val (.int v13), .val (.int v14), .val (.int v9)]) rfl ?_
              have fv14 := f_iadd ev14; rw [show (Int32.ofInt (1)).toInt = 1 from by decide] at fv14; have rv14 := rng32 v14
              refine go_goto K H d2_152 ?_
              refine go_iload K H d2_103 rfl ?_
              refine go_iloadN K H d2_105 rfl ?_
              refine go_iload K H d2_106 rfl ?_
              refine go_iadd K H d2_108 fun v15 ev15 => ?_
              have fv15 := f_iadd ev15
              (try simp only [Int32.reduceToInt] at fv15)
              have rv15 := rng32 v15
              refine go_icmp_ge K H d2_109 (fun c109 => False.elim (by (try simp only [Int32.lt_iff_toInt_lt, Int32.le_iff_toInt_le, ← Int32.toInt_inj, Int32.reduceToInt, ne_eq] at c109) <;> omega)) (fun c109 => ?_)
              refine go_aloadN K H d2_112 rfl rfl ?_
              refine go_iload K H d2_113 rfl ?_
              refine go_baload (sN + 2) K H d2_115 (A) (by omega) (h2v) ?_
              refine go_sipush (255) K H d2_116 (by decide) ?_
              refine go_iand K H d2_119 fun v16 ev16 => ?_
              have fv16 := f_mask 256 8 ev16 (by decide) (by decide) (by decide)
              (try simp only [Int32.reduceToInt] at fv16)
              refine go_istore K H d2_120 (L' := #[.val (.ref a), .val (.int u0), .val (.int u1), .val (.int v1), .val (.int 4), .val (.int v13), .val (.int v14), .val (.int v16)]) rfl ?_
              refine go_iload K H d2_122 rfl ?_
              refine go_sipush (192) K H d2_124 (by decide) ?_
              refine go_iand K H d2_127 fun v17 ev17 => ?_
              refine go_sipush (128) K H d2_128 (by decide) ?_
              have rn2 : 0 ≤ v16.toInt ∧ v16.toInt < 256 := by rw [fv16]; omega
              have rm2 := and192 ev17 rn2.1 rn2.2
              (try simp only [Int32.lt_iff_toInt_lt, Int32.le_iff_toInt_le, ← Int32.toInt_inj, Int32.reduceToInt, ne_eq] at rm2)
              refine go_icmp_eq K H d2_131 (fun c131 => ?_) (fun c131 => ?_)
              · (try simp only [Int32.lt_iff_toInt_lt, Int32.le_iff_toInt_le, ← Int32.toInt_inj, Int32.reduceToInt, ne_eq] at c131)
                refine go_iload K H d2_136 rfl ?_
                refine go_bipush (6) K H d2_138 (by decide) ?_
                refine go_ishl K H d2_140 fun v18 ev18 => ?_
                have fv18 := f_ishl 64 6 ev18 (by decide) (by decide)
                (try simp only [Int32.reduceToInt] at fv18)
                have rv18 := rng32 v18
                refine go_iload K H d2_141 rfl ?_
                refine go_bipush (63) K H d2_143 (by decide) ?_
                refine go_iand K H d2_145 fun v19 ev19 => ?_
                have fv19 := f_mask 64 6 ev19 (by decide) (by decide) (by decide)
                (try simp only [Int32.reduceToInt] at fv19)
                refine go_ior K H d2_146 fun v20 ev20 => ?_
                have ro2 : v20.toInt = v18.toInt + v19.toInt := or_low ev20 (by omega) (by omega) (by omega) (by omega) (by omega)
                refine go_istore K H d2_147 (L' := #[.val (.ref a), .val (.int u0), .val (.int u1), .val (.int v1), .val (.int 4), .val (.int v20), .val (.int v14), .val (.int v16)]) rfl ?_
                obtain ⟨v21, ev21⟩ : ∃ z : Int32, z = v14 + Int32.ofInt (1) := ⟨_, rfl⟩
                refine go_iinc K H d2_149 rfl ev21 (L' := #[.val (.ref a), .val (.int u0), .val (.int u1), .val (.int v1), .val (.int 4), .val (.int v20), .val (.int v21), .val (.int v16)]) rfl ?_
                have fv21 := f_iadd ev21; rw [show (Int32.ofInt (1)).toInt = 1 from by decide] at fv21; have rv21 := rng32 v21
                refine go_goto K H d2_152 ?_
                refine go_iload K H d2_103 rfl ?_
                refine go_iloadN K H d2_105 rfl ?_
                refine go_iload K H d2_106 rfl ?_
                refine go_iadd K H d2_108 fun v22 ev22 => ?_
                have fv22 := f_iadd ev22
                (try simp only [Int32.reduceToInt] at fv22)
                have rv22 := rng32 v22
                refine go_icmp_ge K H d2_109 (fun c109 => False.elim (by (try simp only [Int32.lt_iff_toInt_lt, Int32.le_iff_toInt_le, ← Int32.toInt_inj, Int32.reduceToInt, ne_eq] at c109) <;> omega)) (fun c109 => ?_)
                refine go_aloadN K H d2_112 rfl rfl ?_
                refine go_iload K H d2_113 rfl ?_
                refine go_baload (sN + 3) K H d2_115 (A) (by omega) (h3v) ?_
                refine go_sipush (255) K H d2_116 (by decide) ?_
                refine go_iand K H d2_119 fun v23 ev23 => ?_
                have fv23 := f_mask 256 8 ev23 (by decide) (by decide) (by decide)
                (try simp only [Int32.reduceToInt] at fv23)
                refine go_istore K H d2_120 (L' := #[.val (.ref a), .val (.int u0), .val (.int u1), .val (.int v1), .val (.int 4), .val (.int v20), .val (.int v21), .val (.int v23)]) rfl ?_
                refine go_iload K H d2_122 rfl ?_
                refine go_sipush (192) K H d2_124 (by decide) ?_
                refine go_iand K H d2_127 fun v24 ev24 => ?_
                refine go_sipush (128) K H d2_128 (by decide) ?_
                have rn3 : 0 ≤ v23.toInt ∧ v23.toInt < 256 := by rw [fv23]; omega
                have rm3 := and192 ev24 rn3.1 rn3.2
                (try simp only [Int32.lt_iff_toInt_lt, Int32.le_iff_toInt_le, ← Int32.toInt_inj, Int32.reduceToInt, ne_eq] at rm3)
                refine go_icmp_eq K H d2_131 (fun c131 => ?_) (fun c131 => ?_)
                · (try simp only [Int32.lt_iff_toInt_lt, Int32.le_iff_toInt_le, ← Int32.toInt_inj, Int32.reduceToInt, ne_eq] at c131)
                  refine go_iload K H d2_136 rfl ?_
                  refine go_bipush (6) K H d2_138 (by decide) ?_
                  refine go_ishl K H d2_140 fun v25 ev25 => ?_
                  have fv25 := f_ishl 64 6 ev25 (by decide) (by decide)
                  (try simp only [Int32.reduceToInt] at fv25)
                  have rv25 := rng32 v25
                  refine go_iload K H d2_141 rfl ?_
                  refine go_bipush (63) K H d2_143 (by decide) ?_
                  refine go_iand K H d2_145 fun v26 ev26 => ?_
                  have fv26 := f_mask 64 6 ev26 (by decide) (by decide) (by decide)
                  (try simp only [Int32.reduceToInt] at fv26)
                  refine go_ior K H d2_146 fun v27 ev27 => ?_
                  have ro3 : v27.toInt = v25.toInt + v26.toInt := or_low ev27 (by omega) (by omega) (by omega) (by omega) (by omega)
                  refine go_istore K H d2_147 (L' := #[.val (.ref a), .val (.int u0), .val (.int u1), .val (.int v1), .val (.int 4), .val (.int v27), .val (.int v21), .val (.int v23)]) rfl ?_
                  obtain ⟨v28, ev28⟩ : ∃ z : Int32, z = v21 + Int32.ofInt (1) := ⟨_, rfl⟩
                  refine go_iinc K H d2_149 rfl ev28 (L' := #[.val (.ref a), .val (.int u0), .val (.int u1), .val (.int v1), .val (.int 4), .val (.int v27), .val (.int v28), .val (.int v23)]) rfl ?_
                  have fv28 := f_iadd ev28; rw [show (Int32.ofInt (1)).toInt = 1 from by decide] at fv28; have rv28 := rng32 v28
                  refine go_goto K H d2_152 ?_
                  refine go_iload K H d2_103 rfl ?_
                  refine go_iloadN K H d2_105 rfl ?_
                  refine go_iload K H d2_106 rfl ?_
                  refine go_iadd K H d2_108 fun v29 ev29 => ?_
                  have fv29 := f_iadd ev29
                  (try simp only [Int32.reduceToInt] at fv29)
                  have rv29 := rng32 v29
                  refine go_icmp_ge K H d2_109 (fun c109 => ?_) (fun c109 => False.elim (by (try simp only [Int32.lt_iff_toInt_lt, Int32.le_iff_toInt_le, ← Int32.toInt_inj, Int32.reduceToInt, ne_eq] at c109) <;> omega))
                  refine go_iload K H d2_155 rfl ?_
                  refine go_iconst (2) K H d2_157 (by decide) ?_
                  refine go_icmp_ne K H d2_158 (fun c158 => ?_) (fun c158 => False.elim (by first | exact absurd c158 (by decide) | exact c158 (by decide)))
                  refine go_iload K H d2_167 rfl ?_
                  refine go_iconst (3) K H d2_169 (by decide) ?_
                  refine go_icmp_ne K H d2_170 (fun c170 => ?_) (fun c170 => False.elim (by first | exact absurd c170 (by decide) | exact c170 (by decide)))
                  refine go_ldcI (65536) K H d2_179 (hw _ (List.mem_of_getElem? (i := 9) rfl)) ?_
                  refine go_istore K H d2_181 (L' := #[.val (.ref a), .val (.int u0), .val (.int u1), .val (.int v1), .val (.int 4), .val (.int v27), .val (.int (65536)), .val (.int v23)]) rfl ?_
                  refine go_iload K H d2_183 rfl ?_
                  refine go_iload K H d2_185 rfl ?_
                  refine go_icmp_lt K H d2_187 (fun c187 => ?_) (fun c187 => ?_)
                  · (try simp only [Int32.lt_iff_toInt_lt, Int32.le_iff_toInt_le, ← Int32.toInt_inj, Int32.reduceToInt, ne_eq] at c187)
                    refine go_iconst (-1) K H d2_211 (by decide) ?_
                    exact go_iret K H d2_212 rfl (by decide) (by decide) (⟨by (try simp only [Int32.reduceToInt]); rw [ex4 (by omega) (by omega)]; (repeat' split) <;> omega, rfl⟩)
                  · (try simp only [Int32.lt_iff_toInt_lt, Int32.le_iff_toInt_le, ← Int32.toInt_inj, Int32.reduceToInt, ne_eq] at c187)
                    refine go_iload K H d2_190 rfl ?_
                    refine go_ldcI (55296) K H d2_192 (hw _ (List.mem_of_getElem? (i := 10) rfl)) ?_
                    refine go_icmp_lt K H d2_194 (fun c194 => ?_) (fun c194 => ?_)
                    · (try simp only [Int32.lt_iff_toInt_lt, Int32.le_iff_toInt_le, ← Int32.toInt_inj, Int32.reduceToInt, ne_eq] at c194)
                      refine go_iload K H d2_204 rfl ?_
                      refine go_ldcI (1114111) K H d2_206 (hw _ (List.mem_of_getElem? (i := 12) rfl)) ?_
                      refine go_icmp_le K H d2_208 (fun c208 => ?_) (fun c208 => ?_)
                      · (try simp only [Int32.lt_iff_toInt_lt, Int32.le_iff_toInt_le, ← Int32.toInt_inj, Int32.reduceToInt, ne_eq] at c208)
                        refine go_iload K H d2_213 rfl ?_
                        exact go_iret K H d2_215 rfl (by decide) (by decide) (⟨by (try simp only [Int32.reduceToInt]); rw [ex4 (by omega) (by omega)]; (repeat' split) <;> omega, rfl⟩)
                      · (try simp only [Int32.lt_iff_toInt_lt, Int32.le_iff_toInt_le, ← Int32.toInt_inj, Int32.reduceToInt, ne_eq] at c208)
                        refine go_iconst (-1) K H d2_211 (by decide) ?_
                        exact go_iret K H d2_212 rfl (by decide) (by decide) (⟨by (try simp only [Int32.reduceToInt]); rw [ex4 (by omega) (by omega)]; (repeat' split) <;> omega, rfl⟩)
                    · (try simp only [Int32.lt_iff_toInt_lt, Int32.le_iff_toInt_le, ← Int32.toInt_inj, Int32.reduceToInt, ne_eq] at c194)
                      refine go_iload K H d2_197 rfl ?_
                      refine go_ldcI (57343) K H d2_199 (hw _ (List.mem_of_getElem? (i := 11) rfl)) ?_
                      refine go_icmp_le K H d2_201 (fun c201 => ?_) (fun c201 => ?_)
                      · (try simp only [Int32.lt_iff_toInt_lt, Int32.le_iff_toInt_le, ← Int32.toInt_inj, Int32.reduceToInt, ne_eq] at c201)
                        refine go_iconst (-1) K H d2_211 (by decide) ?_
                        exact go_iret K H d2_212 rfl (by decide) (by decide) (⟨by (try simp only [Int32.reduceToInt]); rw [ex4 (by omega) (by omega)]; (repeat' split) <;> omega, rfl⟩)
                      · (try simp only [Int32.lt_iff_toInt_lt, Int32.le_iff_toInt_le, ← Int32.toInt_inj, Int32.reduceToInt, ne_eq] at c201)
                        refine go_iload K H d2_204 rfl ?_
                        refine go_ldcI (1114111) K H d2_206 (hw _ (List.mem_of_getElem? (i := 12) rfl)) ?_
                        refine go_icmp_le K H d2_208 (fun c208 => ?_) (fun c208 => ?_)
                        · (try simp only [Int32.lt_iff_toInt_lt, Int32.le_iff_toInt_le, ← Int32.toInt_inj, Int32.reduceToInt, ne_eq] at c208)
                          refine go_iload K H d2_213 rfl ?_
                          exact go_iret K H d2_215 rfl (by decide) (by decide) (⟨by (try simp only [Int32.reduceToInt]); rw [ex4 (by omega) (by omega)]; (repeat' split) <;> omega, rfl⟩)
                        · (try simp only [Int32.lt_iff_toInt_lt, Int32.le_iff_toInt_le, ← Int32.toInt_inj, Int32.reduceToInt, ne_eq] at c208)
                          refine go_iconst (-1) K H d2_211 (by decide) ?_
                          exact go_iret K H d2_212 rfl (by decide) (by decide) (⟨by (try simp only [Int32.reduceToInt]); rw [ex4 (by omega) (by omega)]; (repeat' split) <;> omega, rfl⟩)
                · (try simp only [Int32.lt_iff_toInt_lt, Int32.le_iff_toInt_le, ← Int32.toInt_inj, Int32.reduceToInt, ne_eq] at c131)
                  refine go_iconst (-1) K H d2_134 (by decide) ?_
                  exact go_iret K H d2_135 rfl (by decide) (by decide) (⟨by (try simp only [Int32.reduceToInt]); rw [ex4 (by omega) (by omega)]; (repeat' split) <;> omega, rfl⟩)
              · (try simp only [Int32.lt_iff_toInt_lt, Int32.le_iff_toInt_le, ← Int32.toInt_inj, Int32.reduceToInt, ne_eq] at c131)
                refine go_iconst (-1) K H d2_134 (by decide) ?_
                exact go_iret K H d2_135 rfl (by decide) (by decide) (⟨by (try simp only [Int32.reduceToInt]); rw [ex4 (by omega) (by omega)]; (repeat' split) <;> omega, rfl⟩)
            · (try simp only [Int32.lt_iff_toInt_lt, Int32.le_iff_toInt_le, ← Int32.toInt_inj, Int32.reduceToInt, ne_eq] at c131)
              refine go_iconst (-1) K H d2_134 (by decide) ?_
              exact go_iret K H d2_135 rfl (by decide) (by decide) (⟨by (try simp only [Int32.reduceToInt]); rw [ex4 (by omega) (by omega)]; (repeat' split) <;> omega, rfl⟩)
          · (try simp only [Int32.lt_iff_toInt_lt, Int32.le_iff_toInt_le, ← Int32.toInt_inj, Int32.reduceToInt, ne_eq] at c93)
            refine go_iconst (-1) K H d2_96 (by decide) ?_
            exact go_iret K H d2_97 rfl (by decide) (by decide) (⟨by (try simp only [Int32.reduceToInt]); rw [ex4 (by omega) (by omega)]; (repeat' split) <;> omega, rfl⟩)
      · (try simp only [Int32.lt_iff_toInt_lt, Int32.le_iff_toInt_le, ← Int32.toInt_inj, Int32.reduceToInt, ne_eq] at c48)
        refine go_iconst (3) K H d2_51 (by decide) ?_
        refine go_istore K H d2_52 (L' := #[.val (.ref a), .val (.int u0), .val (.int u1), .val (.int v1), .val (.int 3), .unset, .unset, .unset]) rfl ?_
        refine go_iloadN K H d2_54 rfl ?_
        refine go_bipush (15) K H d2_55 (by decide) ?_
        refine go_iand K H d2_57 fun v30 ev30 => ?_
        have fv30 := f_mask 16 4 ev30 (by decide) (by decide) (by decide)
        (try simp only [Int32.reduceToInt] at fv30)
        refine go_istore K H d2_58 (L' := #[.val (.ref a), .val (.int u0), .val (.int u1), .val (.int v1), .val (.int 3), .val (.int v30), .unset, .unset]) rfl ?_
        refine go_goto K H d2_60 ?_
        refine go_iloadN K H d2_88 rfl ?_
        refine go_iloadN K H d2_89 rfl ?_
        refine go_isub K H d2_90 fun v31 ev31 => ?_
        have fv31 := f_isub ev31
        (try simp only [Int32.reduceToInt] at fv31)
        have rv31 := rng32 v31
        refine go_iload K H d2_91 rfl ?_
        refine go_icmp_ge K H d2_93 (fun c93 => ?_) (fun c93 => ?_)
        · (try simp only [Int32.lt_iff_toInt_lt, Int32.le_iff_toInt_le, ← Int32.toInt_inj, Int32.reduceToInt, ne_eq] at c93)
          refine go_iloadN K H d2_98 rfl ?_
          refine go_iconst (1) K H d2_99 (by decide) ?_
          refine go_iadd K H d2_100 fun v32 ev32 => ?_
          have fv32 := f_iadd ev32
          (try simp only [Int32.reduceToInt] at fv32)
          have rv32 := rng32 v32
          refine go_istore K H d2_101 (L' := #[.val (.ref a), .val (.int u0), .val (.int u1), .val (.int v1), .val (.int 3), .val (.int v30), .val (.int v32), .unset]) rfl ?_
          refine go_iload K H d2_103 rfl ?_
          refine go_iloadN K H d2_105 rfl ?_
          refine go_iload K H d2_106 rfl ?_
          refine go_iadd K H d2_108 fun v33 ev33 => ?_
          have fv33 := f_iadd ev33
          (try simp only [Int32.reduceToInt] at fv33)
          have rv33 := rng32 v33
          refine go_icmp_ge K H d2_109 (fun c109 => False.elim (by (try simp only [Int32.lt_iff_toInt_lt, Int32.le_iff_toInt_le, ← Int32.toInt_inj, Int32.reduceToInt, ne_eq] at c109) <;> omega)) (fun c109 => ?_)
          refine go_aloadN K H d2_112 rfl rfl ?_
          refine go_iload K H d2_113 rfl ?_
          refine go_baload (sN + 1) K H d2_115 (A) (by omega) (h1v) ?_
          refine go_sipush (255) K H d2_116 (by decide) ?_
          refine go_iand K H d2_119 fun v34 ev34 => ?_
          have fv34 := f_mask 256 8 ev34 (by decide) (by decide) (by decide)
          (try simp only [Int32.reduceToInt] at fv34)
          refine go_istore K H d2_120 (L' := #[.val (.ref a), .val (.int u0), .val (.int u1), .val (.int v1), .val (.int 3), .val (.int v30), .val (.int v32), .val (.int v34)]) rfl ?_
          refine go_iload K H d2_122 rfl ?_
          refine go_sipush (192) K H d2_124 (by decide) ?_
          refine go_iand K H d2_127 fun v35 ev35 => ?_
          refine go_sipush (128) K H d2_128 (by decide) ?_
          have rn1 : 0 ≤ v34.toInt ∧ v34.toInt < 256 := by rw [fv34]; omega
          have rm1 := and192 ev35 rn1.1 rn1.2
          (try simp only [Int32.lt_iff_toInt_lt, Int32.le_iff_toInt_le, ← Int32.toInt_inj, Int32.reduceToInt, ne_eq] at rm1)
          refine go_icmp_eq K H d2_131 (fun c131 => ?_) (fun c131 => ?_)
          · (try simp only [Int32.lt_iff_toInt_lt, Int32.le_iff_toInt_le, ← Int32.toInt_inj, Int32.reduceToInt, ne_eq] at c131)
            refine go_iload K H d2_136 rfl ?_
            refine go_bipush (6) K H d2_138 (by decide) ?_
            refine go_ishl K H d2_140 fun v36 ev36 => ?_
            have fv36 := f_ishl 64 6 ev36 (by decide) (by decide)
            (try simp only [Int32.reduceToInt] at fv36)
            have rv36 := rng32 v36
            refine go_iload K H d2_141 rfl ?_
            refine go_bipush (63) K H d2_143 (by decide) ?_
            refine go_iand K H d2_145 fun v37 ev37 => ?_
            have fv37 := f_mask 64 6 ev37 (by decide) (by decide) (by decide)
            (try simp only [Int32.reduceToInt] at fv37)
            refine go_ior K H d2_146 fun v38 ev38 => ?_
            have ro1 : v38.toInt = v36.toInt + v37.toInt := or_low ev38 (by omega) (by omega) (by omega) (by omega) (by omega)
            refine go_istore K H d2_147 (L' := #[.val (.ref a), .val (.int u0), .val (.int u1), .val (.int v1), .val (.int 3), .val (.int v38), .val (.int v32), .val (.int v34)]) rfl ?_
            obtain ⟨v39, ev39⟩ : ∃ z : Int32, z = v32 + Int32.ofInt (1) := ⟨_, rfl⟩
            refine go_iinc K H d2_149 rfl ev39 (L' := #[.val (.ref a), .val (.int u0), .val (.int u1), .val (.int v1), .val (.int 3), .val (.int v38), .val (.int v39), .val (.int v34)]) rfl ?_
            have fv39 := f_iadd ev39; rw [show (Int32.ofInt (1)).toInt = 1 from by decide] at fv39; have rv39 := rng32 v39
            refine go_goto K H d2_152 ?_
            refine go_iload K H d2_103 rfl ?_
            refine go_iloadN K H d2_105 rfl ?_
            refine go_iload K H d2_106 rfl ?_
            refine go_iadd K H d2_108 fun v40 ev40 => ?_
            have fv40 := f_iadd ev40
            (try simp only [Int32.reduceToInt] at fv40)
            have rv40 := rng32 v40
            refine go_icmp_ge K H d2_109 (fun c109 => False.elim (by (try simp only [Int32.lt_iff_toInt_lt, Int32.le_iff_toInt_le, ← Int32.toInt_inj, Int32.reduceToInt, ne_eq] at c109) <;> omega)) (fun c109 => ?_)
            refine go_aloadN K H d2_112 rfl rfl ?_
            refine go_iload K H d2_113 rfl ?_
            refine go_baload (sN + 2) K H d2_115 (A) (by omega) (h2v) ?_
            refine go_sipush (255) K H d2_116 (by decide) ?_
            refine go_iand K H d2_119 fun v41 ev41 => ?_
            have fv41 := f_mask 256 8 ev41 (by decide) (by decide) (by decide)
            (try simp only [Int32.reduceToInt] at fv41)
            refine go_istore K H d2_120 (L' := #[.val (.ref a), .val (.int u0), .val (.int u1), .val (.int v1), .val (.int 3), .val (.int v38), .val (.int v39), .val (.int v41)]) rfl ?_
            refine go_iload K H d2_122 rfl ?_
            refine go_sipush (192) K H d2_124 (by decide) ?_
            refine go_iand K H d2_127 fun v42 ev42 => ?_
            refine go_sipush (128) K H d2_128 (by decide) ?_
            have rn2 : 0 ≤ v41.toInt ∧ v41.toInt < 256 := by rw [fv41]; omega
            have rm2 := and192 ev42 rn2.1 rn2.2
            (try simp only [Int32.lt_iff_toInt_lt, Int32.le_iff_toInt_le, ← Int32.toInt_inj, Int32.reduceToInt, ne_eq] at rm2)
            refine go_icmp_eq K H d2_131 (fun c131 => ?_) (fun c131 => ?_)
            · (try simp only [Int32.lt_iff_toInt_lt, Int32.le_iff_toInt_le, ← Int32.toInt_inj, Int32.reduceToInt, ne_eq] at c131)
              refine go_iload K H d2_136 rfl ?_
              refine go_bipush (6) K H d2_138 (by decide) ?_
              refine go_ishl K H d2_140 fun v43 ev43 => ?_
              have fv43 := f_ishl 64 6 ev43 (by decide) (by decide)
              (try simp only [Int32.reduceToInt] at fv43)
              have rv43 := rng32 v43
              refine go_iload K H d2_141 rfl ?_
              refine go_bipush (63) K H d2_143 (by decide) ?_
              refine go_iand K H d2_145 fun v44 ev44 => ?_
              have fv44 := f_mask 64 6 ev44 (by decide) (by decide) (by decide)
              (try simp only [Int32.reduceToInt] at fv44)
              refine go_ior K H d2_146 fun v45 ev45 => ?_
              have ro2 : v45.toInt = v43.toInt + v44.toInt := or_low ev45 (by omega) (by omega) (by omega) (by omega) (by omega)
              refine go_istore K H d2_147 (L' := #[.val (.ref a), .val (.int u0), .val (.int u1), .val (.int v1), .val (.int 3), .val (.int v45), .val (.int v39), .val (.int v41)]) rfl ?_
              obtain ⟨v46, ev46⟩ : ∃ z : Int32, z = v39 + Int32.ofInt (1) := ⟨_, rfl⟩
              refine go_iinc K H d2_149 rfl ev46 (L' := #[.val (.ref a), .val (.int u0), .val (.int u1), .val (.int v1), .val (.int 3), .val (.int v45), .val (.int v46), .val (.int v41)]) rfl ?_
              have fv46 := f_iadd ev46; rw [show (Int32.ofInt (1)).toInt = 1 from by decide] at fv46; have rv46 := rng32 v46
              refine go_goto K H d2_152 ?_
              refine go_iload K H d2_103 rfl ?_
              refine go_iloadN K H d2_105 rfl ?_
              refine go_iload K H d2_106 rfl ?_
              refine go_iadd K H d2_108 fun v47 ev47 => ?_
              have fv47 := f_iadd ev47
              (try simp only [Int32.reduceToInt] at fv47)
              have rv47 := rng32 v47
              refine go_icmp_ge K H d2_109 (fun c109 => ?_) (fun c109 => False.elim (by (try simp only [Int32.lt_iff_toInt_lt, Int32.le_iff_toInt_le, ← Int32.toInt_inj, Int32.reduceToInt, ne_eq] at c109) <;> omega))
              refine go_iload K H d2_155 rfl ?_
              refine go_iconst (2) K H d2_157 (by decide) ?_
              refine go_icmp_ne K H d2_158 (fun c158 => ?_) (fun c158 => False.elim (by first | exact absurd c158 (by decide) | exact c158 (by decide)))
              refine go_iload K H d2_167 rfl ?_
              refine go_iconst (3) K H d2_169 (by decide) ?_
              refine go_icmp_ne K H d2_170 (fun c170 => False.elim (by first | exact absurd c170 (by decide) | exact c170 (by decide))) (fun c170 => ?_)
              refine go_sipush (2048) K H d2_173 (by decide) ?_
              refine go_goto K H d2_176 ?_
              refine go_istore K H d2_181 (L' := #[.val (.ref a), .val (.int u0), .val (.int u1), .val (.int v1), .val (.int 3), .val (.int v45), .val (.int 2048), .val (.int v41)]) rfl ?_
              refine go_iload K H d2_183 rfl ?_
              refine go_iload K H d2_185 rfl ?_
              refine go_icmp_lt K H d2_187 (fun c187 => ?_) (fun c187 => ?_)
              · (try simp only [Int32.lt_iff_toInt_lt, Int32.le_iff_toInt_le, ← Int32.toInt_inj, Int32.reduceToInt, ne_eq] at c187)
                refine go_iconst (-1) K H d2_211 (by decide) ?_
                exact go_iret K H d2_212 rfl (by decide) (by decide) (⟨by (try simp only [Int32.reduceToInt]); rw [ex3 (by omega) (by omega)]; split <;> omega, rfl⟩)
              · (try simp only [Int32.lt_iff_toInt_lt, Int32.le_iff_toInt_le, ← Int32.toInt_inj, Int32.reduceToInt, ne_eq] at c187)
                refine go_iload K H d2_190 rfl ?_
                refine go_ldcI (55296) K H d2_192 (hw _ (List.mem_of_getElem? (i := 10) rfl)) ?_
                refine go_icmp_lt K H d2_194 (fun c194 => ?_) (fun c194 => ?_)
                · (try simp only [Int32.lt_iff_toInt_lt, Int32.le_iff_toInt_le, ← Int32.toInt_inj, Int32.reduceToInt, ne_eq] at c194)
                  refine go_iload K H d2_204 rfl ?_
                  refine go_ldcI (1114111) K H d2_206 (hw _ (List.mem_of_getElem? (i := 12) rfl)) ?_
                  refine go_icmp_le K H d2_208 (fun c208 => ?_) (fun c208 => ?_)
                  · (try simp only [Int32.lt_iff_toInt_lt, Int32.le_iff_toInt_le, ← Int32.toInt_inj, Int32.reduceToInt, ne_eq] at c208)
                    refine go_iload K H d2_213 rfl ?_
                    exact go_iret K H d2_215 rfl (by decide) (by decide) (⟨by (try simp only [Int32.reduceToInt]); rw [ex3 (by omega) (by omega)]; split <;> omega, rfl⟩)
                  · (try simp only [Int32.lt_iff_toInt_lt, Int32.le_iff_toInt_le, ← Int32.toInt_inj, Int32.reduceToInt, ne_eq] at c208)
                    refine go_iconst (-1) K H d2_211 (by decide) ?_
                    exact go_iret K H d2_212 rfl (by decide) (by decide) (⟨by (try simp only [Int32.reduceToInt]); rw [ex3 (by omega) (by omega)]; split <;> omega, rfl⟩)
                · (try simp only [Int32.lt_iff_toInt_lt, Int32.le_iff_toInt_le, ← Int32.toInt_inj, Int32.reduceToInt, ne_eq] at c194)
                  refine go_iload K H d2_197 rfl ?_
                  refine go_ldcI (57343) K H d2_199 (hw _ (List.mem_of_getElem? (i := 11) rfl)) ?_
                  refine go_icmp_le K H d2_201 (fun c201 => ?_) (fun c201 => ?_)
                  · (try simp only [Int32.lt_iff_toInt_lt, Int32.le_iff_toInt_le, ← Int32.toInt_inj, Int32.reduceToInt, ne_eq] at c201)
                    refine go_iconst (-1) K H d2_211 (by decide) ?_
                    exact go_iret K H d2_212 rfl (by decide) (by decide) (⟨by (try simp only [Int32.reduceToInt]); rw [ex3 (by omega) (by omega)]; split <;> omega, rfl⟩)
                  · (try simp only [Int32.lt_iff_toInt_lt, Int32.le_iff_toInt_le, ← Int32.toInt_inj, Int32.reduceToInt, ne_eq] at c201)
                    refine go_iload K H d2_204 rfl ?_
                    refine go_ldcI (1114111) K H d2_206 (hw _ (List.mem_of_getElem? (i := 12) rfl)) ?_
                    refine go_icmp_le K H d2_208 (fun c208 => ?_) (fun c208 => ?_)
                    · (try simp only [Int32.lt_iff_toInt_lt, Int32.le_iff_toInt_le, ← Int32.toInt_inj, Int32.reduceToInt, ne_eq] at c208)
                      refine go_iload K H d2_213 rfl ?_
                      exact go_iret K H d2_215 rfl (by decide) (by decide) (⟨by (try simp only [Int32.reduceToInt]); rw [ex3 (by omega) (by omega)]; split <;> omega, rfl⟩)
                    · (try simp only [Int32.lt_iff_toInt_lt, Int32.le_iff_toInt_le, ← Int32.toInt_inj, Int32.reduceToInt, ne_eq] at c208)
                      refine go_iconst (-1) K H d2_211 (by decide) ?_
                      exact go_iret K H d2_212 rfl (by decide) (by decide) (⟨by (try simp only [Int32.reduceToInt]); rw [ex3 (by omega) (by omega)]; split <;> omega, rfl⟩)
            · (try simp only [Int32.lt_iff_toInt_lt, Int32.le_iff_toInt_le, ← Int32.toInt_inj, Int32.reduceToInt, ne_eq] at c131)
              refine go_iconst (-1) K H d2_134 (by decide) ?_
              exact go_iret K H d2_135 rfl (by decide) (by decide) (⟨by (try simp only [Int32.reduceToInt]); rw [ex3 (by omega) (by omega)]; split <;> omega, rfl⟩)
          · (try simp only [Int32.lt_iff_toInt_lt, Int32.le_iff_toInt_le, ← Int32.toInt_inj, Int32.reduceToInt, ne_eq] at c131)
            refine go_iconst (-1) K H d2_134 (by decide) ?_
            exact go_iret K H d2_135 rfl (by decide) (by decide) (⟨by (try simp only [Int32.reduceToInt]); rw [ex3 (by omega) (by omega)]; split <;> omega, rfl⟩)
        · (try simp only [Int32.lt_iff_toInt_lt, Int32.le_iff_toInt_le, ← Int32.toInt_inj, Int32.reduceToInt, ne_eq] at c93)
          refine go_iconst (-1) K H d2_96 (by decide) ?_
          exact go_iret K H d2_97 rfl (by decide) (by decide) (⟨by (try simp only [Int32.reduceToInt]); rw [ex3 (by omega) (by omega)]; split <;> omega, rfl⟩)
    · (try simp only [Int32.lt_iff_toInt_lt, Int32.le_iff_toInt_le, ← Int32.toInt_inj, Int32.reduceToInt, ne_eq] at c25)
      refine go_iconst (2) K H d2_28 (by decide) ?_
      refine go_istore K H d2_29 (L' := #[.val (.ref a), .val (.int u0), .val (.int u1), .val (.int v1), .val (.int 2), .unset, .unset, .unset]) rfl ?_
      refine go_iloadN K H d2_31 rfl ?_
      refine go_bipush (31) K H d2_32 (by decide) ?_
      refine go_iand K H d2_34 fun v48 ev48 => ?_
      have fv48 := f_mask 32 5 ev48 (by decide) (by decide) (by decide)
      (try simp only [Int32.reduceToInt] at fv48)
      refine go_istore K H d2_35 (L' := #[.val (.ref a), .val (.int u0), .val (.int u1), .val (.int v1), .val (.int 2), .val (.int v48), .unset, .unset]) rfl ?_
      refine go_goto K H d2_37 ?_
      refine go_iloadN K H d2_88 rfl ?_
      refine go_iloadN K H d2_89 rfl ?_
      refine go_isub K H d2_90 fun v49 ev49 => ?_
      have fv49 := f_isub ev49
      (try simp only [Int32.reduceToInt] at fv49)
      have rv49 := rng32 v49
      refine go_iload K H d2_91 rfl ?_
      refine go_icmp_ge K H d2_93 (fun c93 => ?_) (fun c93 => ?_)
      · (try simp only [Int32.lt_iff_toInt_lt, Int32.le_iff_toInt_le, ← Int32.toInt_inj, Int32.reduceToInt, ne_eq] at c93)
        refine go_iloadN K H d2_98 rfl ?_
        refine go_iconst (1) K H d2_99 (by decide) ?_
        refine go_iadd K H d2_100 fun v50 ev50 => ?_
        have fv50 := f_iadd ev50
        (try simp only [Int32.reduceToInt] at fv50)
        have rv50 := rng32 v50
        refine go_istore K H d2_101 (L' := #[.val (.ref a), .val (.int u0), .val (.int u1), .val (.int v1), .val (.int 2), .val (.int v48), .val (.int v50), .unset]) rfl ?_
        refine go_iload K H d2_103 rfl ?_
        refine go_iloadN K H d2_105 rfl ?_
        refine go_iload K H d2_106 rfl ?_
        refine go_iadd K H d2_108 fun v51 ev51 => ?_
        have fv51 := f_iadd ev51
        (try simp only [Int32.reduceToInt] at fv51)
        have rv51 := rng32 v51
        refine go_icmp_ge K H d2_109 (fun c109 => False.elim (by (try simp only [Int32.lt_iff_toInt_lt, Int32.le_iff_toInt_le, ← Int32.toInt_inj, Int32.reduceToInt, ne_eq] at c109) <;> omega)) (fun c109 => ?_)
        refine go_aloadN K H d2_112 rfl rfl ?_
        refine go_iload K H d2_113 rfl ?_
        refine go_baload (sN + 1) K H d2_115 (A) (by omega) (h1v) ?_
        refine go_sipush (255) K H d2_116 (by decide) ?_
        refine go_iand K H d2_119 fun v52 ev52 => ?_
        have fv52 := f_mask 256 8 ev52 (by decide) (by decide) (by decide)
        (try simp only [Int32.reduceToInt] at fv52)
        refine go_istore K H d2_120 (L' := #[.val (.ref a), .val (.int u0), .val (.int u1), .val (.int v1), .val (.int 2), .val (.int v48), .val (.int v50), .val (.int v52)]) rfl ?_
        refine go_iload K H d2_122 rfl ?_
        refine go_sipush (192) K H d2_124 (by decide) ?_
        refine go_iand K H d2_127 fun v53 ev53 => ?_
        refine go_sipush (128) K H d2_128 (by decide) ?_
        have rn1 : 0 ≤ v52.toInt ∧ v52.toInt < 256 := by rw [fv52]; omega
        have rm1 := and192 ev53 rn1.1 rn1.2
        (try simp only [Int32.lt_iff_toInt_lt, Int32.le_iff_toInt_le, ← Int32.toInt_inj, Int32.reduceToInt, ne_eq] at rm1)
        refine go_icmp_eq K H d2_131 (fun c131 => ?_) (fun c131 => ?_)
        · (try simp only [Int32.lt_iff_toInt_lt, Int32.le_iff_toInt_le, ← Int32.toInt_inj, Int32.reduceToInt, ne_eq] at c131)
          refine go_iload K H d2_136 rfl ?_
          refine go_bipush (6) K H d2_138 (by decide) ?_
          refine go_ishl K H d2_140 fun v54 ev54 => ?_
          have fv54 := f_ishl 64 6 ev54 (by decide) (by decide)
          (try simp only [Int32.reduceToInt] at fv54)
          have rv54 := rng32 v54
          refine go_iload K H d2_141 rfl ?_
          refine go_bipush (63) K H d2_143 (by decide) ?_
          refine go_iand K H d2_145 fun v55 ev55 => ?_
          have fv55 := f_mask 64 6 ev55 (by decide) (by decide) (by decide)
          (try simp only [Int32.reduceToInt] at fv55)
          refine go_ior K H d2_146 fun v56 ev56 => ?_
          have ro1 : v56.toInt = v54.toInt + v55.toInt := or_low ev56 (by omega) (by omega) (by omega) (by omega) (by omega)
          refine go_istore K H d2_147 (L' := #[.val (.ref a), .val (.int u0), .val (.int u1), .val (.int v1), .val (.int 2), .val (.int v56), .val (.int v50), .val (.int v52)]) rfl ?_
          obtain ⟨v57, ev57⟩ : ∃ z : Int32, z = v50 + Int32.ofInt (1) := ⟨_, rfl⟩
          refine go_iinc K H d2_149 rfl ev57 (L' := #[.val (.ref a), .val (.int u0), .val (.int u1), .val (.int v1), .val (.int 2), .val (.int v56), .val (.int v57), .val (.int v52)]) rfl ?_
          have fv57 := f_iadd ev57; rw [show (Int32.ofInt (1)).toInt = 1 from by decide] at fv57; have rv57 := rng32 v57
          refine go_goto K H d2_152 ?_
          refine go_iload K H d2_103 rfl ?_
          refine go_iloadN K H d2_105 rfl ?_
          refine go_iload K H d2_106 rfl ?_
          refine go_iadd K H d2_108 fun v58 ev58 => ?_
          have fv58 := f_iadd ev58
          (try simp only [Int32.reduceToInt] at fv58)
          have rv58 := rng32 v58
          refine go_icmp_ge K H d2_109 (fun c109 => ?_) (fun c109 => False.elim (by (try simp only [Int32.lt_iff_toInt_lt, Int32.le_iff_toInt_le, ← Int32.toInt_inj, Int32.reduceToInt, ne_eq] at c109) <;> omega))
          refine go_iload K H d2_155 rfl ?_
          refine go_iconst (2) K H d2_157 (by decide) ?_
          refine go_icmp_ne K H d2_158 (fun c158 => False.elim (by first | exact absurd c158 (by decide) | exact c158 (by decide))) (fun c158 => ?_)
          refine go_sipush (128) K H d2_161 (by decide) ?_
          refine go_goto K H d2_164 ?_
          refine go_istore K H d2_181 (L' := #[.val (.ref a), .val (.int u0), .val (.int u1), .val (.int v1), .val (.int 2), .val (.int v56), .val (.int 128), .val (.int v52)]) rfl ?_
          refine go_iload K H d2_183 rfl ?_
          refine go_iload K H d2_185 rfl ?_
          refine go_icmp_lt K H d2_187 (fun c187 => ?_) (fun c187 => ?_)
          · (try simp only [Int32.lt_iff_toInt_lt, Int32.le_iff_toInt_le, ← Int32.toInt_inj, Int32.reduceToInt, ne_eq] at c187)
            refine go_iconst (-1) K H d2_211 (by decide) ?_
            exact go_iret K H d2_212 rfl (by decide) (by decide) (⟨by (try simp only [Int32.reduceToInt]); rw [ex2 (by omega) (by omega)]; (repeat' split) <;> omega, rfl⟩)
          · (try simp only [Int32.lt_iff_toInt_lt, Int32.le_iff_toInt_le, ← Int32.toInt_inj, Int32.reduceToInt, ne_eq] at c187)
            refine go_iload K H d2_190 rfl ?_
            refine go_ldcI (55296) K H d2_192 (hw _ (List.mem_of_getElem? (i := 10) rfl)) ?_
            refine go_icmp_lt K H d2_194 (fun c194 => ?_) (fun c194 => ?_)
            · (try simp only [Int32.lt_iff_toInt_lt, Int32.le_iff_toInt_le, ← Int32.toInt_inj, Int32.reduceToInt, ne_eq] at c194)
              refine go_iload K H d2_204 rfl ?_
              refine go_ldcI (1114111) K H d2_206 (hw _ (List.mem_of_getElem? (i := 12) rfl)) ?_
              refine go_icmp_le K H d2_208 (fun c208 => ?_) (fun c208 => ?_)
              · (try simp only [Int32.lt_iff_toInt_lt, Int32.le_iff_toInt_le, ← Int32.toInt_inj, Int32.reduceToInt, ne_eq] at c208)
                refine go_iload K H d2_213 rfl ?_
                exact go_iret K H d2_215 rfl (by decide) (by decide) (⟨by (try simp only [Int32.reduceToInt]); rw [ex2 (by omega) (by omega)]; (repeat' split) <;> omega, rfl⟩)
              · (try simp only [Int32.lt_iff_toInt_lt, Int32.le_iff_toInt_le, ← Int32.toInt_inj, Int32.reduceToInt, ne_eq] at c208)
                refine go_iconst (-1) K H d2_211 (by decide) ?_
                exact go_iret K H d2_212 rfl (by decide) (by decide) (⟨by (try simp only [Int32.reduceToInt]); rw [ex2 (by omega) (by omega)]; (repeat' split) <;> omega, rfl⟩)
            · (try simp only [Int32.lt_iff_toInt_lt, Int32.le_iff_toInt_le, ← Int32.toInt_inj, Int32.reduceToInt, ne_eq] at c194)
              refine go_iload K H d2_197 rfl ?_
              refine go_ldcI (57343) K H d2_199 (hw _ (List.mem_of_getElem? (i := 11) rfl)) ?_
              refine go_icmp_le K H d2_201 (fun c201 => ?_) (fun c201 => ?_)
              · (try simp only [Int32.lt_iff_toInt_lt, Int32.le_iff_toInt_le, ← Int32.toInt_inj, Int32.reduceToInt, ne_eq] at c201)
                refine go_iconst (-1) K H d2_211 (by decide) ?_
                exact go_iret K H d2_212 rfl (by decide) (by decide) (⟨by (try simp only [Int32.reduceToInt]); rw [ex2 (by omega) (by omega)]; (repeat' split) <;> omega, rfl⟩)
              · (try simp only [Int32.lt_iff_toInt_lt, Int32.le_iff_toInt_le, ← Int32.toInt_inj, Int32.reduceToInt, ne_eq] at c201)
                refine go_iload K H d2_204 rfl ?_
                refine go_ldcI (1114111) K H d2_206 (hw _ (List.mem_of_getElem? (i := 12) rfl)) ?_
                refine go_icmp_le K H d2_208 (fun c208 => ?_) (fun c208 => ?_)
                · (try simp only [Int32.lt_iff_toInt_lt, Int32.le_iff_toInt_le, ← Int32.toInt_inj, Int32.reduceToInt, ne_eq] at c208)
                  refine go_iload K H d2_213 rfl ?_
                  exact go_iret K H d2_215 rfl (by decide) (by decide) (⟨by (try simp only [Int32.reduceToInt]); rw [ex2 (by omega) (by omega)]; (repeat' split) <;> omega, rfl⟩)
                · (try simp only [Int32.lt_iff_toInt_lt, Int32.le_iff_toInt_le, ← Int32.toInt_inj, Int32.reduceToInt, ne_eq] at c208)
                  refine go_iconst (-1) K H d2_211 (by decide) ?_
                  exact go_iret K H d2_212 rfl (by decide) (by decide) (⟨by (try simp only [Int32.reduceToInt]); rw [ex2 (by omega) (by omega)]; (repeat' split) <;> omega, rfl⟩)
        · (try simp only [Int32.lt_iff_toInt_lt, Int32.le_iff_toInt_le, ← Int32.toInt_inj, Int32.reduceToInt, ne_eq] at c131)
          refine go_iconst (-1) K H d2_134 (by decide) ?_
          exact go_iret K H d2_135 rfl (by decide) (by decide) (⟨by (try simp only [Int32.reduceToInt]); rw [ex2 (by omega) (by omega)]; (repeat' split) <;> omega, rfl⟩)
      · (try simp only [Int32.lt_iff_toInt_lt, Int32.le_iff_toInt_le, ← Int32.toInt_inj, Int32.reduceToInt, ne_eq] at c93)
        refine go_iconst (-1) K H d2_96 (by decide) ?_
        exact go_iret K H d2_97 rfl (by decide) (by decide) (⟨by (try simp only [Int32.reduceToInt]); rw [ex2 (by omega) (by omega)]; (repeat' split) <;> omega, rfl⟩)
  · (try simp only [Int32.lt_iff_toInt_lt, Int32.le_iff_toInt_le, ← Int32.toInt_inj, Int32.reduceToInt, ne_eq] at c12)
    refine go_iloadN K H d2_15 rfl ?_
    exact go_iret K H d2_16 rfl (by decide) (by decide) (⟨by (try simp only [Int32.reduceToInt]); rw [ex1 (by omega)] <;> omega, rfl⟩)
set_option maxRecDepth 65536 in
set_option maxHeartbeats 40000000 in
theorem rm0 (Z : State) (a0 : Array Value) (hw : ∀ d ∈ tables_1, d.before a0 Z = true) (u0 : Int32) (u1 : Int32) (u2 : Int32) (h0 : Heap) (n0 : Nat) (Z0 : n0 ≤ h0.size)  (lau : Launch) :
    Con lau Z x code maxLocals ret room_1 #[(.int u0), (.int u1), (.int u2)] h0 n0 (RI fun z _ => z = 1) := by
  refine con_intro pn3 (L := #[.val (.int u0), .val (.int u1), .val (.int u2), .unset, .unset, .unset, .unset, .unset, .unset, .unset, .unset, .unset]) (fun m => by first | (simp [entryFrame, mkF, argsToLocals, Value.category, maxLocals]; done) | rfl) Z0 (fun w T K H => ?_)
  refine go_iloadN K H d3_0 rfl ?_
  refine go_iconst (1) K H d3_1 (by decide) ?_
  refine go_iand K H d3_2 fun v1 ev1 => ?_
  have fv1 := f_mask 2 1 ev1 (by decide) (by decide) (by decide)
  refine go_istoreN K H d3_3 (L' := #[.val (.int u0), .val (.int u1), .val (.int u2), .val (.int v1), .unset, .unset, .unset, .unset, .unset, .unset, .unset, .unset]) rfl ?_
  refine go_iloadN K H d3_4 rfl ?_
  refine go_iconst (1) K H d3_5 (by decide) ?_
  refine go_iushr K H d3_6 fun v2 ev2 => ?_
  have fv2 := f_iushr 2 1 ev2 (by decide) (by decide) (by decide)
  refine go_iconst (3) K H d3_7 (by decide) ?_
  refine go_iand K H d3_8 fun v3 ev3 => ?_
  have fv3 := f_mask 4 2 ev3 (by decide) (by decide) (by decide)
  refine go_iconst (1) K H d3_9 (by decide) ?_
  refine go_iadd K H d3_10 fun v4 ev4 => ?_
  have fv4 := f_iadd ev4
  have rv4 := rng32 v4
  refine go_istore K H d3_11 (L' := #[.val (.int u0), .val (.int u1), .val (.int u2), .val (.int v1), .val (.int v4), .unset, .unset, .unset, .unset, .unset, .unset, .unset]) rfl ?_
  refine go_iloadN K H d3_13 rfl ?_
  refine go_iconst (3) K H d3_14 (by decide) ?_
  refine go_iushr K H d3_15 fun v5 ev5 => ?_
  have fv5 := f_iushr 8 3 ev5 (by decide) (by decide) (by decide)
  refine go_iconst (1) K H d3_16 (by decide) ?_
  refine go_iand K H d3_17 fun v6 ev6 => ?_
  have fv6 := f_mask 2 1 ev6 (by decide) (by decide) (by decide)
  have J26 : ∀ (f : Int32), Go w (RI fun z _ => z = 1) T 26 #[.val (.int u0), .val (.int u1), .val (.int u2), .val (.int v1), .val (.int v4), .unset, .unset, .unset, .unset, .unset, .unset, .unset] [(.int f)] := by
    intro f
    refine go_istore K H d3_26 (L' := #[.val (.int u0), .val (.int u1), .val (.int u2), .val (.int v1), .val (.int v4), .val (.int f), .unset, .unset, .unset, .unset, .unset, .unset]) rfl ?_
    refine go_iloadN K H d3_28 rfl ?_
    refine go_sipush (255) K H d3_29 (by decide) ?_
    refine go_iand K H d3_32 fun v7 ev7 => ?_
    have fv7 := f_mask 256 8 ev7 (by decide) (by decide) (by decide)
    refine go_istore K H d3_33 (L' := #[.val (.int u0), .val (.int u1), .val (.int u2), .val (.int v1), .val (.int v4), .val (.int f), .val (.int v7), .unset, .unset, .unset, .unset, .unset]) rfl ?_
    refine go_iloadN K H d3_35 rfl ?_
    refine go_bipush (8) K H d3_36 (by decide) ?_
    refine go_iushr K H d3_38 fun v8 ev8 => ?_
    have fv8 := f_iushr 256 8 ev8 (by decide) (by decide) (by decide)
    refine go_sipush (255) K H d3_39 (by decide) ?_
    refine go_iand K H d3_42 fun v9 ev9 => ?_
    have fv9 := f_mask 256 8 ev9 (by decide) (by decide) (by decide)
    refine go_istore K H d3_43 (L' := #[.val (.int u0), .val (.int u1), .val (.int u2), .val (.int v1), .val (.int v4), .val (.int f), .val (.int v7), .val (.int v9), .unset, .unset, .unset, .unset]) rfl ?_
    refine go_iloadN K H d3_45 rfl ?_
    refine go_bipush (16) K H d3_46 (by decide) ?_
    refine go_iushr K H d3_48 fun v10 ev10 => ?_
    have fv10 := f_iushr 65536 16 ev10 (by decide) (by decide) (by decide)
    refine go_sipush (255) K H d3_49 (by decide) ?_
    refine go_iand K H d3_52 fun v11 ev11 => ?_
    have fv11 := f_mask 256 8 ev11 (by decide) (by decide) (by decide)
    refine go_istore K H d3_53 (L' := #[.val (.int u0), .val (.int u1), .val (.int u2), .val (.int v1), .val (.int v4), .val (.int f), .val (.int v7), .val (.int v9), .val (.int v11), .unset, .unset, .unset]) rfl ?_
    refine go_iloadN K H d3_55 rfl ?_
    refine go_bipush (24) K H d3_56 (by decide) ?_
    refine go_iushr K H d3_58 fun v12 ev12 => ?_
    have fv12 := f_iushr 16777216 24 ev12 (by decide) (by decide) (by decide)
    refine go_sipush (255) K H d3_59 (by decide) ?_
    refine go_iand K H d3_62 fun v13 ev13 => ?_
    have fv13 := f_mask 256 8 ev13 (by decide) (by decide) (by decide)
    refine go_istore K H d3_63 (L' := #[.val (.int u0), .val (.int u1), .val (.int u2), .val (.int v1), .val (.int v4), .val (.int f), .val (.int v7), .val (.int v9), .val (.int v11), .val (.int v13), .unset, .unset]) rfl ?_
    refine go_iload K H d3_65 rfl ?_
    have J103 : ∀ (b1 b2 b3 : Int32) (r1 : 0 ≤ b1.toInt ∧ b1.toInt ≤ 255) (r2 : 0 ≤ b2.toInt ∧ b2.toInt ≤ 255) (r3 : 0 ≤ b3.toInt ∧ b3.toInt ≤ 255), Go w (RI fun z _ => z = 1) T 103 #[.val (.int u0), .val (.int u1), .val (.int u2), .val (.int v1), .val (.int v4), .val (.int f), .val (.int v7), .val (.int b1), .val (.int b2), .val (.int b3), .unset, .unset] [] := by
      intro b1 b2 b3 r1 r2 r3
      refine go_iconst (5) K H d3_103 (by decide) ?_
      refine go_newarray 5 K H d3_104 (hw _ (List.mem_of_getElem? (i := 0) rfl)) (by decide) (by decide) (by decide) (by decide) (by decide) fun T14 h14 a H14 g14 l14 E14 A14 => ?_
      have B : VA Z h14 a .byte [.int 0, .int 0, .int 0, .int 0, .int 0] := A14
      refine go_astore K H14 d3_106 rfl (L' := #[.val (.int u0), .val (.int u1), .val (.int u2), .val (.int v1), .val (.int v4), .val (.int f), .val (.int v7), .val (.int b1), .val (.int b2), .val (.int b3), .val (.ref a), .unset]) rfl ?_
      refine go_aload K H14 d3_108 rfl rfl ?_
      refine go_iconst (0) K H14 d3_110 (by decide) ?_
      refine go_iloadN K H14 d3_111 rfl ?_
      refine go_i2b K H14 d3_112 fun v15 ev15 => ?_
      have fv15 := f_i2b ev15
      refine go_bastore (0) K H14 d3_113 (B) (by decide) (by simp) (l14) fun T16 h16 H16 W16 => ?_
      replace B : VA Z h16 a .byte [.int v15.toInt8.toInt32, .int 0, .int 0, .int 0, .int 0] := VA.set B W16
      refine go_aload K H16 d3_114 rfl rfl ?_
      refine go_iconst (4) K H16 d3_116 (by decide) ?_
      refine go_iloadN K H16 d3_117 rfl ?_
      refine go_bipush (8) K H16 d3_118 (by decide) ?_
      refine go_iushr K H16 d3_120 fun v17 ev17 => ?_
      have fv17 := f_iushr 256 8 ev17 (by decide) (by decide) (by decide)
      refine go_i2b K H16 d3_121 fun v18 ev18 => ?_
      have fv18 := f_i2b ev18
      refine go_bastore (4) K H16 d3_122 (B) (by decide) (by simp) (l14) fun T19 h19 H19 W19 => ?_
      replace B : VA Z h19 a .byte [.int v15.toInt8.toInt32, .int 0, .int 0, .int 0, .int v18.toInt8.toInt32] := VA.set B W19
      refine go_aload K H19 d3_123 rfl rfl ?_
      refine go_iloadN K H19 d3_125 rfl ?_
      refine go_iload K H19 d3_126 rfl ?_
      refine go_i2b K H19 d3_128 fun v20 ev20 => ?_
      have fv20 := f_i2b ev20
      have hst : v1 = 0 ∨ v1 = 1 := by rcases (show v1.toInt = 0 ∨ v1.toInt = 1 by clear B; rw [fv1]; omega) with q | q; exact Or.inl (Int32.toInt_inj.mp q); exact Or.inr (Int32.toInt_inj.mp q)
      rcases hst with hst | hst
      · subst hst
        show Go w _ _ 129 #[.val (.int u0), .val (.int u1), .val (.int u2), .val (.int 0), .val (.int v4), .val (.int f), .val (.int v7), .val (.int b1), .val (.int b2), .val (.int b3), .val (.ref a), .unset] [(.int v20), (.int 0), (.ref a)]
        refine go_bastore (0) K H19 d3_129 (B) (by decide) (by simp) (l14) fun T21 h21 H21 W21 => ?_
        replace B : VA Z h21 a .byte [.int v20.toInt8.toInt32, .int 0, .int 0, .int 0, .int v18.toInt8.toInt32] := VA.set B W21
        refine go_aload K H21 d3_130 rfl rfl ?_
        refine go_iloadN K H21 d3_132 rfl ?_
        refine go_iconst (1) K H21 d3_133 (by decide) ?_
        refine go_iadd K H21 d3_134 fun v22 ev22 => ?_
        obtain rfl : v22 = (1 : Int32) := ev22.trans (by decide)
        refine go_iload K H21 d3_135 rfl ?_
        refine go_i2b K H21 d3_137 fun v23 ev23 => ?_
        have fv23 := f_i2b ev23
        refine go_bastore (1) K H21 d3_138 (B) (by decide) (by simp) (l14) fun T24 h24 H24 W24 => ?_
        replace B : VA Z h24 a .byte [.int v20.toInt8.toInt32, .int v23.toInt8.toInt32, .int 0, .int 0, .int v18.toInt8.toInt32] := VA.set B W24
        refine go_aload K H24 d3_139 rfl rfl ?_
        refine go_iloadN K H24 d3_141 rfl ?_
        refine go_iconst (2) K H24 d3_142 (by decide) ?_
        refine go_iadd K H24 d3_143 fun v25 ev25 => ?_
        obtain rfl : v25 = (2 : Int32) := ev25.trans (by decide)
        refine go_iload K H24 d3_144 rfl ?_
        refine go_i2b K H24 d3_146 fun v26 ev26 => ?_
        have fv26 := f_i2b ev26
        refine go_bastore (2) K H24 d3_147 (B) (by decide) (by simp) (l14) fun T27 h27 H27 W27 => ?_
        replace B : VA Z h27 a .byte [.int v20.toInt8.toInt32, .int v23.toInt8.toInt32, .int v26.toInt8.toInt32, .int 0, .int v18.toInt8.toInt32] := VA.set B W27
        refine go_aload K H27 d3_148 rfl rfl ?_
        refine go_iloadN K H27 d3_150 rfl ?_
        refine go_iconst (3) K H27 d3_151 (by decide) ?_
        refine go_iadd K H27 d3_152 fun v28 ev28 => ?_
        obtain rfl : v28 = (3 : Int32) := ev28.trans (by decide)
        refine go_iload K H27 d3_153 rfl ?_
        refine go_i2b K H27 d3_155 fun v29 ev29 => ?_
        have fv29 := f_i2b ev29
        refine go_bastore (3) K H27 d3_156 (B) (by decide) (by simp) (l14) fun T30 h30 H30 W30 => ?_
        replace B : VA Z h30 a .byte [.int v20.toInt8.toInt32, .int v23.toInt8.toInt32, .int v26.toInt8.toInt32, .int v29.toInt8.toInt32, .int v18.toInt8.toInt32] := VA.set B W30
        refine go_aload K H30 d3_157 rfl rfl ?_
        refine go_iloadN K H30 d3_159 rfl ?_
        refine go_iloadN K H30 d3_160 rfl ?_
        refine go_iload K H30 d3_161 rfl ?_
        refine go_iadd K H30 d3_163 fun v31 ev31 => ?_
        have fv31 := f_iadd ev31
        have rv31 := rng32 v31
        have hav : 1 ≤ v31.toInt - (0 : Int32).toInt ∧ v31.toInt - (0 : Int32).toInt ≤ 4 := by clear B; (try simp only [or_true, true_or, and_true, true_and, not_true_eq_false, not_false_eq_true, Int32.lt_iff_toInt_lt, Int32.le_iff_toInt_le, ← Int32.toInt_inj, Int64.lt_iff_toInt_lt, Int64.le_iff_toInt_le, ← Int64.toInt_inj, Int32.reduceToInt, Int64.reduceToInt, ne_eq] at *) <;> omega
        have hav2 : v31.toInt - (0 : Int32).toInt = v4.toInt := by clear B; (try simp only [or_true, true_or, and_true, true_and, not_true_eq_false, not_false_eq_true, Int32.lt_iff_toInt_lt, Int32.le_iff_toInt_le, ← Int32.toInt_inj, Int64.lt_iff_toInt_lt, Int64.le_iff_toInt_le, ← Int64.toInt_inj, Int32.reduceToInt, Int64.reduceToInt, ne_eq] at *) <;> omega
        refine go_callS [(.ref a), (.int 0), (.int v31)] K H30 d3_164 (hw _ (List.mem_of_getElem? (i := 1) rfl)) (hw _ (List.mem_of_getElem? (i := 2) rfl)) (hw _ (List.mem_of_getElem? (i := 3) rfl)) (hw _ (List.mem_of_getElem? (i := 4) rfl)) (st' := []) (by decide) (rm3 Z a0 hw _ _ _ _ n0 (at_size K H30) _ 0 _ _ _ _ B rfl (by decide) rfl rfl rfl rfl hav) pd1 rfl rfl rfl (by decide) (W := 0) rfl (by decide) (by decide) (by decide) fun T32 h32 v32 H32 q32 => ?_
        obtain ⟨z32, rfl, e1, rfl⟩ := q32
        show Go w _ _ 167 #[.val (.int u0), .val (.int u1), .val (.int u2), .val (.int 0), .val (.int v4), .val (.int f), .val (.int v7), .val (.int b1), .val (.int b2), .val (.int b3), .val (.ref a), .unset] [(.int z32)]
        refine go_istore K H32 d3_167 (L' := #[.val (.int u0), .val (.int u1), .val (.int u2), .val (.int 0), .val (.int v4), .val (.int f), .val (.int v7), .val (.int b1), .val (.int b2), .val (.int b3), .val (.ref a), .val (.int z32)]) rfl ?_
        refine go_iload K H32 d3_169 rfl ?_
        refine go_iload K H32 d3_171 rfl ?_
        refine go_iload K H32 d3_173 rfl ?_
        refine go_iload K H32 d3_175 rfl ?_
        refine go_iload K H32 d3_177 rfl ?_
        refine go_iload K H32 d3_179 rfl ?_
        refine go_callS [(.int v7), (.int b1), (.int b2), (.int b3), (.int v4)] K H32 d3_181 (hw _ (List.mem_of_getElem? (i := 5) rfl)) (hw _ (List.mem_of_getElem? (i := 6) rfl)) (hw _ (List.mem_of_getElem? (i := 7) rfl)) (hw _ (List.mem_of_getElem? (i := 8) rfl)) (st' := [(.int z32)]) (by decide) (rm2 Z a0 hw _ _ _ _ _ _ n0 (at_size K H32) (by clear B e1; (try simp only [or_true, true_or, and_true, true_and, not_true_eq_false, not_false_eq_true, Int32.lt_iff_toInt_lt, Int32.le_iff_toInt_le, ← Int32.toInt_inj, Int64.lt_iff_toInt_lt, Int64.le_iff_toInt_le, ← Int64.toInt_inj, Int32.reduceToInt, Int64.reduceToInt, ne_eq] at *) <;> omega) (by clear B e1; exact r1) (by clear B e1; exact r2) (by clear B e1; exact r3)) pd2 rfl rfl rfl (by decide) (W := 1) rfl (by decide) (by decide) (by decide) fun T33 h33 v33 H33 q33 => ?_
        obtain ⟨z33, rfl, e2, rfl⟩ := q33
        show Go w _ _ 184 #[.val (.int u0), .val (.int u1), .val (.int u2), .val (.int 0), .val (.int v4), .val (.int f), .val (.int v7), .val (.int b1), .val (.int b2), .val (.int b3), .val (.ref a), .val (.int z32)] [(.int z33), (.int z32)]
        have hm0 : v20.toInt8.toInt32.toInt % 256 = v7.toInt := by have q := f_i2b (v := v20.toInt8.toInt32) (x := v20) rfl; clear B e1 e2; (try simp only [or_true, true_or, and_true, true_and, not_true_eq_false, not_false_eq_true, Int32.lt_iff_toInt_lt, Int32.le_iff_toInt_le, ← Int32.toInt_inj, Int64.lt_iff_toInt_lt, Int64.le_iff_toInt_le, ← Int64.toInt_inj, Int32.reduceToInt, Int64.reduceToInt, ne_eq] at *) <;> omega
        have hm1 : v23.toInt8.toInt32.toInt % 256 = b1.toInt := by have q := f_i2b (v := v23.toInt8.toInt32) (x := v23) rfl; clear B e1 e2; (try simp only [or_true, true_or, and_true, true_and, not_true_eq_false, not_false_eq_true, Int32.lt_iff_toInt_lt, Int32.le_iff_toInt_le, ← Int32.toInt_inj, Int64.lt_iff_toInt_lt, Int64.le_iff_toInt_le, ← Int64.toInt_inj, Int32.reduceToInt, Int64.reduceToInt, ne_eq] at *) <;> omega
        have hm2 : v26.toInt8.toInt32.toInt % 256 = b2.toInt := by have q := f_i2b (v := v26.toInt8.toInt32) (x := v26) rfl; clear B e1 e2; (try simp only [or_true, true_or, and_true, true_and, not_true_eq_false, not_false_eq_true, Int32.lt_iff_toInt_lt, Int32.le_iff_toInt_le, ← Int32.toInt_inj, Int64.lt_iff_toInt_lt, Int64.le_iff_toInt_le, ← Int64.toInt_inj, Int32.reduceToInt, Int64.reduceToInt, ne_eq] at *) <;> omega
        have hm3 : v29.toInt8.toInt32.toInt % 256 = b3.toInt := by have q := f_i2b (v := v29.toInt8.toInt32) (x := v29) rfl; clear B e1 e2; (try simp only [or_true, true_or, and_true, true_and, not_true_eq_false, not_false_eq_true, Int32.lt_iff_toInt_lt, Int32.le_iff_toInt_le, ← Int32.toInt_inj, Int64.lt_iff_toInt_lt, Int64.le_iff_toInt_le, ← Int64.toInt_inj, Int32.reduceToInt, Int64.reduceToInt, ne_eq] at *) <;> omega
        rw [hm0, hm1, hm2, hm3, hav2] at e1
        refine go_icmp_ne K H33 d3_184 (fun cc => False.elim (by exact cc (Int32.toInt_inj.mp (e1.trans e2.symm)))) (fun cc => ?_)
        refine go_iconst (1) K H33 d3_187 (by decide) ?_
        refine go_goto K H33 d3_188 ?_
        exact go_zret K H33 d3_192 rfl (by decide) (by decide) (by decide) (rfl)
      · subst hst
        show Go w _ _ 129 #[.val (.int u0), .val (.int u1), .val (.int u2), .val (.int 1), .val (.int v4), .val (.int f), .val (.int v7), .val (.int b1), .val (.int b2), .val (.int b3), .val (.ref a), .unset] [(.int v20), (.int 1), (.ref a)]
        refine go_bastore (1) K H19 d3_129 (B) (by decide) (by simp) (l14) fun T34 h34 H34 W34 => ?_
        replace B : VA Z h34 a .byte [.int v15.toInt8.toInt32, .int v20.toInt8.toInt32, .int 0, .int 0, .int v18.toInt8.toInt32] := VA.set B W34
        refine go_aload K H34 d3_130 rfl rfl ?_
        refine go_iloadN K H34 d3_132 rfl ?_
        refine go_iconst (1) K H34 d3_133 (by decide) ?_
        refine go_iadd K H34 d3_134 fun v35 ev35 => ?_
        obtain rfl : v35 = (2 : Int32) := ev35.trans (by decide)
        refine go_iload K H34 d3_135 rfl ?_
        refine go_i2b K H34 d3_137 fun v36 ev36 => ?_
        have fv36 := f_i2b ev36
        refine go_bastore (2) K H34 d3_138 (B) (by decide) (by simp) (l14) fun T37 h37 H37 W37 => ?_
        replace B : VA Z h37 a .byte [.int v15.toInt8.toInt32, .int v20.toInt8.toInt32, .int v36.toInt8.toInt32, .int 0, .int v18.toInt8.toInt32] := VA.set B W37
        refine go_aload K H37 d3_139 rfl rfl ?_
        refine go_iloadN K H37 d3_141 rfl ?_
        refine go_iconst (2) K H37 d3_142 (by decide) ?_
        refine go_iadd K H37 d3_143 fun v38 ev38 => ?_
        obtain rfl : v38 = (3 : Int32) := ev38.trans (by decide)
        refine go_iload K H37 d3_144 rfl ?_
        refine go_i2b K H37 d3_146 fun v39 ev39 => ?_
        have fv39 := f_i2b ev39
        refine go_bastore (3) K H37 d3_147 (B) (by decide) (by simp) (l14) fun T40 h40 H40 W40 => ?_
        replace B : VA Z h40 a .byte [.int v15.toInt8.toInt32, .int v20.toInt8.toInt32, .int v36.toInt8.toInt32, .int v39.toInt8.toInt32, .int v18.toInt8.toInt32] := VA.set B W40
        refine go_aload K H40 d3_148 rfl rfl ?_
        refine go_iloadN K H40 d3_150 rfl ?_
        refine go_iconst (3) K H40 d3_151 (by decide) ?_
        refine go_iadd K H40 d3_152 fun v41 ev41 => ?_
        obtain rfl : v41 = (4 : Int32) := ev41.trans (by decide)
        refine go_iload K H40 d3_153 rfl ?_
        refine go_i2b K H40 d3_155 fun v42 ev42 => ?_
        have fv42 := f_i2b ev42
        refine go_bastore (4) K H40 d3_156 (B) (by decide) (by simp) (l14) fun T43 h43 H43 W43 => ?_
        replace B : VA Z h43 a .byte [.int v15.toInt8.toInt32, .int v20.toInt8.toInt32, .int v36.toInt8.toInt32, .int v39.toInt8.toInt32, .int v42.toInt8.toInt32] := VA.set B W43
        refine go_aload K H43 d3_157 rfl rfl ?_
        refine go_iloadN K H43 d3_159 rfl ?_
        refine go_iloadN K H43 d3_160 rfl ?_
        refine go_iload K H43 d3_161 rfl ?_
        refine go_iadd K H43 d3_163 fun v44 ev44 => ?_
        have fv44 := f_iadd ev44
        have rv44 := rng32 v44
        have hav : 1 ≤ v44.toInt - (1 : Int32).toInt ∧ v44.toInt - (1 : Int32).toInt ≤ 4 := by clear B; (try simp only [or_true, true_or, and_true, true_and, not_true_eq_false, not_false_eq_true, Int32.lt_iff_toInt_lt, Int32.le_iff_toInt_le, ← Int32.toInt_inj, Int64.lt_iff_toInt_lt, Int64.le_iff_toInt_le, ← Int64.toInt_inj, Int32.reduceToInt, Int64.reduceToInt, ne_eq] at *) <;> omega
        have hav2 : v44.toInt - (1 : Int32).toInt = v4.toInt := by clear B; (try simp only [or_true, true_or, and_true, true_and, not_true_eq_false, not_false_eq_true, Int32.lt_iff_toInt_lt, Int32.le_iff_toInt_le, ← Int32.toInt_inj, Int64.lt_iff_toInt_lt, Int64.le_iff_toInt_le, ← Int64.toInt_inj, Int32.reduceToInt, Int64.reduceToInt, ne_eq] at *) <;> omega
        refine go_callS [(.ref a), (.int 1), (.int v44)] K H43 d3_164 (hw _ (List.mem_of_getElem? (i := 1) rfl)) (hw _ (List.mem_of_getElem? (i := 2) rfl)) (hw _ (List.mem_of_getElem? (i := 3) rfl)) (hw _ (List.mem_of_getElem? (i := 4) rfl)) (st' := []) (by decide) (rm3 Z a0 hw _ _ _ _ n0 (at_size K H43) _ 1 _ _ _ _ B rfl (by decide) rfl rfl rfl rfl hav) pd1 rfl rfl rfl (by decide) (W := 0) rfl (by decide) (by decide) (by decide) fun T45 h45 v45 H45 q45 => ?_
        obtain ⟨z45, rfl, e1, rfl⟩ := q45
        show Go w _ _ 167 #[.val (.int u0), .val (.int u1), .val (.int u2), .val (.int 1), .val (.int v4), .val (.int f), .val (.int v7), .val (.int b1), .val (.int b2), .val (.int b3), .val (.ref a), .unset] [(.int z45)]
        refine go_istore K H45 d3_167 (L' := #[.val (.int u0), .val (.int u1), .val (.int u2), .val (.int 1), .val (.int v4), .val (.int f), .val (.int v7), .val (.int b1), .val (.int b2), .val (.int b3), .val (.ref a), .val (.int z45)]) rfl ?_
        refine go_iload K H45 d3_169 rfl ?_
        refine go_iload K H45 d3_171 rfl ?_
        refine go_iload K H45 d3_173 rfl ?_
        refine go_iload K H45 d3_175 rfl ?_
        refine go_iload K H45 d3_177 rfl ?_
        refine go_iload K H45 d3_179 rfl ?_
        refine go_callS [(.int v7), (.int b1), (.int b2), (.int b3), (.int v4)] K H45 d3_181 (hw _ (List.mem_of_getElem? (i := 5) rfl)) (hw _ (List.mem_of_getElem? (i := 6) rfl)) (hw _ (List.mem_of_getElem? (i := 7) rfl)) (hw _ (List.mem_of_getElem? (i := 8) rfl)) (st' := [(.int z45)]) (by decide) (rm2 Z a0 hw _ _ _ _ _ _ n0 (at_size K H45) (by clear B e1; (try simp only [or_true, true_or, and_true, true_and, not_true_eq_false, not_false_eq_true, Int32.lt_iff_toInt_lt, Int32.le_iff_toInt_le, ← Int32.toInt_inj, Int64.lt_iff_toInt_lt, Int64.le_iff_toInt_le, ← Int64.toInt_inj, Int32.reduceToInt, Int64.reduceToInt, ne_eq] at *) <;> omega) (by clear B e1; exact r1) (by clear B e1; exact r2) (by clear B e1; exact r3)) pd2 rfl rfl rfl (by decide) (W := 1) rfl (by decide) (by decide) (by decide) fun T46 h46 v46 H46 q46 => ?_
        obtain ⟨z46, rfl, e2, rfl⟩ := q46
        show Go w _ _ 184 #[.val (.int u0), .val (.int u1), .val (.int u2), .val (.int 1), .val (.int v4), .val (.int f), .val (.int v7), .val (.int b1), .val (.int b2), .val (.int b3), .val (.ref a), .val (.int z45)] [(.int z46), (.int z45)]
        have hm0 : v20.toInt8.toInt32.toInt % 256 = v7.toInt := by have q := f_i2b (v := v20.toInt8.toInt32) (x := v20) rfl; clear B e1 e2; (try simp only [or_true, true_or, and_true, true_and, not_true_eq_false, not_false_eq_true, Int32.lt_iff_toInt_lt, Int32.le_iff_toInt_le, ← Int32.toInt_inj, Int64.lt_iff_toInt_lt, Int64.le_iff_toInt_le, ← Int64.toInt_inj, Int32.reduceToInt, Int64.reduceToInt, ne_eq] at *) <;> omega
        have hm1 : v36.toInt8.toInt32.toInt % 256 = b1.toInt := by have q := f_i2b (v := v36.toInt8.toInt32) (x := v36) rfl; clear B e1 e2; (try simp only [or_true, true_or, and_true, true_and, not_true_eq_false, not_false_eq_true, Int32.lt_iff_toInt_lt, Int32.le_iff_toInt_le, ← Int32.toInt_inj, Int64.lt_iff_toInt_lt, Int64.le_iff_toInt_le, ← Int64.toInt_inj, Int32.reduceToInt, Int64.reduceToInt, ne_eq] at *) <;> omega
        have hm2 : v39.toInt8.toInt32.toInt % 256 = b2.toInt := by have q := f_i2b (v := v39.toInt8.toInt32) (x := v39) rfl; clear B e1 e2; (try simp only [or_true, true_or, and_true, true_and, not_true_eq_false, not_false_eq_true, Int32.lt_iff_toInt_lt, Int32.le_iff_toInt_le, ← Int32.toInt_inj, Int64.lt_iff_toInt_lt, Int64.le_iff_toInt_le, ← Int64.toInt_inj, Int32.reduceToInt, Int64.reduceToInt, ne_eq] at *) <;> omega
        have hm3 : v42.toInt8.toInt32.toInt % 256 = b3.toInt := by have q := f_i2b (v := v42.toInt8.toInt32) (x := v42) rfl; clear B e1 e2; (try simp only [or_true, true_or, and_true, true_and, not_true_eq_false, not_false_eq_true, Int32.lt_iff_toInt_lt, Int32.le_iff_toInt_le, ← Int32.toInt_inj, Int64.lt_iff_toInt_lt, Int64.le_iff_toInt_le, ← Int64.toInt_inj, Int32.reduceToInt, Int64.reduceToInt, ne_eq] at *) <;> omega
        rw [hm0, hm1, hm2, hm3, hav2] at e1
        refine go_icmp_ne K H46 d3_184 (fun cc => False.elim (by exact cc (Int32.toInt_inj.mp (e1.trans e2.symm)))) (fun cc => ?_)
        refine go_iconst (1) K H46 d3_187 (by decide) ?_
        refine go_goto K H46 d3_188 ?_
        exact go_zret K H46 d3_192 rfl (by decide) (by decide) (by decide) (rfl)
    refine go_if_eq K H d3_67 (fun c67 => ?_) (fun c67 => ?_)
    · exact J103 _ _ _ (by (try simp only [or_true, true_or, and_true, true_and, not_true_eq_false, not_false_eq_true, Int32.lt_iff_toInt_lt, Int32.le_iff_toInt_le, ← Int32.toInt_inj, Int64.lt_iff_toInt_lt, Int64.le_iff_toInt_le, ← Int64.toInt_inj, Int32.reduceToInt, Int64.reduceToInt, ne_eq] at *) <;> omega) (by (try simp only [or_true, true_or, and_true, true_and, not_true_eq_false, not_false_eq_true, Int32.lt_iff_toInt_lt, Int32.le_iff_toInt_le, ← Int32.toInt_inj, Int64.lt_iff_toInt_lt, Int64.le_iff_toInt_le, ← Int64.toInt_inj, Int32.reduceToInt, Int64.reduceToInt, ne_eq] at *) <;> omega) (by (try simp only [or_true, true_or, and_true, true_and, not_true_eq_false, not_false_eq_true, Int32.lt_iff_toInt_lt, Int32.le_iff_toInt_le, ← Int32.toInt_inj, Int64.lt_iff_toInt_lt, Int64.le_iff_toInt_le, ← Int64.toInt_inj, Int32.reduceToInt, Int64.reduceToInt, ne_eq] at *) <;> omega)
    · refine go_sipush (128) K H d3_70 (by decide) ?_
      refine go_iload K H d3_73 rfl ?_
      refine go_bipush (63) K H d3_75 (by decide) ?_
      refine go_iand K H d3_77 fun v47 ev47 => ?_
      have fv47 := f_mask 64 6 ev47 (by decide) (by decide) (by decide)
      refine go_ior K H d3_78 fun v48 ev48 => ?_
      have rv48 : v48.toInt = (128 : Int32).toInt + v47.toInt := or_low ev48 (by decide) (by decide) (by (try simp only [or_true, true_or, and_true, true_and, not_true_eq_false, not_false_eq_true, Int32.lt_iff_toInt_lt, Int32.le_iff_toInt_le, ← Int32.toInt_inj, Int64.lt_iff_toInt_lt, Int64.le_iff_toInt_le, ← Int64.toInt_inj, Int32.reduceToInt, Int64.reduceToInt, ne_eq] at *) <;> omega) (by (try simp only [or_true, true_or, and_true, true_and, not_true_eq_false, not_false_eq_true, Int32.lt_iff_toInt_lt, Int32.le_iff_toInt_le, ← Int32.toInt_inj, Int64.lt_iff_toInt_lt, Int64.le_iff_toInt_le, ← Int64.toInt_inj, Int32.reduceToInt, Int64.reduceToInt, ne_eq] at *) <;> omega) (by decide)
      refine go_istore K H d3_79 (L' := #[.val (.int u0), .val (.int u1), .val (.int u2), .val (.int v1), .val (.int v4), .val (.int f), .val (.int v7), .val (.int v48), .val (.int v11), .val (.int v13), .unset, .unset]) rfl ?_
      refine go_sipush (128) K H d3_81 (by decide) ?_
      refine go_iload K H d3_84 rfl ?_
      refine go_bipush (63) K H d3_86 (by decide) ?_
      refine go_iand K H d3_88 fun v49 ev49 => ?_
      have fv49 := f_mask 64 6 ev49 (by decide) (by decide) (by decide)
      refine go_ior K H d3_89 fun v50 ev50 => ?_
      have rv50 : v50.toInt = (128 : Int32).toInt + v49.toInt := or_low ev50 (by decide) (by decide) (by (try simp only [or_true, true_or, and_true, true_and, not_true_eq_false, not_false_eq_true, Int32.lt_iff_toInt_lt, Int32.le_iff_toInt_le, ← Int32.toInt_inj, Int64.lt_iff_toInt_lt, Int64.le_iff_toInt_le, ← Int64.toInt_inj, Int32.reduceToInt, Int64.reduceToInt, ne_eq] at *) <;> omega) (by (try simp only [or_true, true_or, and_true, true_and, not_true_eq_false, not_false_eq_true, Int32.lt_iff_toInt_lt, Int32.le_iff_toInt_le, ← Int32.toInt_inj, Int64.lt_iff_toInt_lt, Int64.le_iff_toInt_le, ← Int64.toInt_inj, Int32.reduceToInt, Int64.reduceToInt, ne_eq] at *) <;> omega) (by decide)
      refine go_istore K H d3_90 (L' := #[.val (.int u0), .val (.int u1), .val (.int u2), .val (.int v1), .val (.int v4), .val (.int f), .val (.int v7), .val (.int v48), .val (.int v50), .val (.int v13), .unset, .unset]) rfl ?_
      refine go_sipush (128) K H d3_92 (by decide) ?_
      refine go_iload K H d3_95 rfl ?_
      refine go_bipush (63) K H d3_97 (by decide) ?_
      refine go_iand K H d3_99 fun v51 ev51 => ?_
      have fv51 := f_mask 64 6 ev51 (by decide) (by decide) (by decide)
      refine go_ior K H d3_100 fun v52 ev52 => ?_
      have rv52 : v52.toInt = (128 : Int32).toInt + v51.toInt := or_low ev52 (by decide) (by decide) (by (try simp only [or_true, true_or, and_true, true_and, not_true_eq_false, not_false_eq_true, Int32.lt_iff_toInt_lt, Int32.le_iff_toInt_le, ← Int32.toInt_inj, Int64.lt_iff_toInt_lt, Int64.le_iff_toInt_le, ← Int64.toInt_inj, Int32.reduceToInt, Int64.reduceToInt, ne_eq] at *) <;> omega) (by (try simp only [or_true, true_or, and_true, true_and, not_true_eq_false, not_false_eq_true, Int32.lt_iff_toInt_lt, Int32.le_iff_toInt_le, ← Int32.toInt_inj, Int64.lt_iff_toInt_lt, Int64.le_iff_toInt_le, ← Int64.toInt_inj, Int32.reduceToInt, Int64.reduceToInt, ne_eq] at *) <;> omega) (by decide)
      refine go_istore K H d3_101 (L' := #[.val (.int u0), .val (.int u1), .val (.int u2), .val (.int v1), .val (.int v4), .val (.int f), .val (.int v7), .val (.int v48), .val (.int v50), .val (.int v52), .unset, .unset]) rfl ?_
      exact J103 _ _ _ (by (try simp only [or_true, true_or, and_true, true_and, not_true_eq_false, not_false_eq_true, Int32.lt_iff_toInt_lt, Int32.le_iff_toInt_le, ← Int32.toInt_inj, Int64.lt_iff_toInt_lt, Int64.le_iff_toInt_le, ← Int64.toInt_inj, Int32.reduceToInt, Int64.reduceToInt, ne_eq] at *) <;> omega) (by (try simp only [or_true, true_or, and_true, true_and, not_true_eq_false, not_false_eq_true, Int32.lt_iff_toInt_lt, Int32.le_iff_toInt_le, ← Int32.toInt_inj, Int64.lt_iff_toInt_lt, Int64.le_iff_toInt_le, ← Int64.toInt_inj, Int32.reduceToInt, Int64.reduceToInt, ne_eq] at *) <;> omega) (by (try simp only [or_true, true_or, and_true, true_and, not_true_eq_false, not_false_eq_true, Int32.lt_iff_toInt_lt, Int32.le_iff_toInt_le, ← Int32.toInt_inj, Int64.lt_iff_toInt_lt, Int64.le_iff_toInt_le, ← Int64.toInt_inj, Int32.reduceToInt, Int64.reduceToInt, ne_eq] at *) <;> omega)
  refine go_if_eq K H d3_18 (fun c18 => ?_) (fun c18 => ?_)
  · refine go_iconst (0) K H d3_25 (by decide) ?_
    exact J26 _
  · refine go_iconst (1) K H d3_21 (by decide) ?_
    refine go_goto K H d3_22 ?_
    exact J26 _
set_option maxRecDepth 65536 in
set_option maxHeartbeats 40000000 in
theorem own_law (l : Launch) (s : State) (args : Array Value) (hF : heapFits s = true) (hrest : True) (hg : (Jvm.Cond.and given_1 narrow_1).value args s none s [] = some true) (hw : ∀ d ∈ tables_1, d.before args s = true) : Con l s x code maxLocals ret room_1 args s.heap s.heap.size (RI fun z _ => z = 1) := by
  obtain ⟨hg, hn⟩ := and_e hg
  obtain ⟨g0, hg⟩ := and_e hg
  obtain ⟨w0, w1, w2, rfl⟩ : ∃ w0 w1 w2 : Value, args = #[w0, w1, w2] := by
    have hs : args.size = 3 := by simpa [Cond.value, given_1] using g0
    obtain ⟨L⟩ := args
    match L, hs with
    | [w0, w1, w2], _ => exact ⟨w0, w1, w2, rfl⟩
  obtain ⟨g1, hg⟩ := and_e hg
  obtain ⟨i0, ei0⟩ := is_v g1
  obtain rfl : w0 = (.int i0) := Option.some.inj ei0
  obtain ⟨g2, hg⟩ := and_e hg
  obtain ⟨i1, ei1⟩ := is_v g2
  obtain rfl : w1 = (.int i1) := Option.some.inj ei1
  obtain ⟨i2, ei2⟩ := is_v hg
  obtain rfl : w2 = (.int i2) := Option.some.inj ei2
  exact rm0 s _ hw i0 i1 i2 s.heap s.heap.size (Nat.le_refl _)  l
theorem main_1_1 : Claimed_1_1 := own_comes (ck := 16) (sk := 128) (fun _ _ _ _ _ _ h hF => ⟨h.1, hF⟩) (by decide) (by decide) fun l _ _ s args hF hr hg hw => own_law l s args hF trivial hg hw
theorem main_1_2 : Claimed_1_2 := own_comes (ck := 16) (sk := 128) (fun _ _ _ _ _ _ h hF => ⟨h.2, hF⟩) (by decide) (by decide) fun l _ _ s args hF hr hg hw => own_law l s args hF trivial hg hw
end Jvm.Pilot.@@N@@
namespace Jvm.Pilot.@@N@@
open Jvm Jvm.ClassFile Sem Op Lib Jvm.Free Jvm.Stand Jvm.Pilot.@@N@@.Jvm.D
/-! MADE BY PROGRAM (witnessworld.py) out of the Statement's table words and the real class files: 9 classes; the members and pool entries that the words name. The judged class is class 1, her method 1. -/
namespace start1
open Jvm.ClassFile
def u (s : String) : CpInfo := .utf8 (stringToUtf16 s)
/-- a pool by its gaps: so many unusable entries, then the entry; so many at the end -/
def gap : Nat → List CpInfo → List CpInfo
  | 0, r => r
  | n + 1, r => .unusable :: gap n r
def poolList (es : List (Nat × CpInfo)) (last : Nat) : List CpInfo := es.foldr (fun e r => gap e.1 (e.2 :: r)) (gap last [])
def pool (es : List (Nat × CpInfo)) (last : Nat) : Array CpInfo := ⟨poolList es last⟩
def fileOf (pool : Array CpInfo) (this : Nat) (attrs : Array Attribute := #[]) (ms : Array MethodInfo := #[]) (fl : Nat := 33) (sup : Nat := 0) (ifs : Array Nat := #[]) (fds : Array FieldInfo := #[]) : ClassFile where
  minorVersion := 0
  majorVersion := 65
  constantPool := pool
  accessFlags := fl
  thisClass := this
  superClass := sup
  interfaces := ifs
  fields := fds
  methods := ms
  attributes := attrs
def plain (name : String) (sup : Option ClassId) : Class where
  name := name
  kind := .ordinary
  loader := none
  accessFlags := 33
  super := sup
  interfaces := #[]
  cf := none
  fields := #[]
  methods := #[]
  instanceTypes := #[]
  staticTypes := #[]
  resolved := #[]
  callSites := []
  init := .initialized
  statics := none
  mirror := none

def pool0 : Array CpInfo := pool [(5, u "<init>"), (0, u "()V"), (1, .class_ 10), (1, u "java/lang/Object")] 113

def k0m0 : Method := { name := "<init>", desc := "()V", sig := { parameters := [], returnType := none }, accessFlags := 1, code := none }
/-- java/lang/Object -/
def k0 : Class := { plain "java/lang/Object" none with
  accessFlags := 33
  interfaces := #[]
  cf := some (fileOf pool0 8 #[] #[{ accessFlags := 1, nameIndex := 5, descriptorIndex := 6, attributes := #[] }] 33 0 #[] #[])
  fields := #[]
  methods := #[k0m0]
  instanceTypes := #[]
  staticTypes := #[]
  resolved := Array.replicate 124 none
  statics := none }

def pool1 : Array CpInfo := pool [(2, .class_ 4), (1, u "java/lang/Object"), (0, u "<init>"), (0, u "()V"), (0, .methodref 8 9), (0, .class_ 10), (0, .nameAndType 11 12), (0, u "com/example/loomtrace/loomtrace/Utf8"), (0, u "decode"), (0, u "([BII)I"), (0, .methodref 14 15), (0, .class_ 16), (0, .nameAndType 17 18), (0, u "com/example/loomtrace/loomtrace/Utf8DecodePinLaw"), (0, u "expected"), (0, u "(IIIII)I"), (0, .methodref 14 20), (0, .nameAndType 21 22), (0, u "cont"), (0, u "(I)Z"), (0, .integer 262144), (2, u "law"), (0, u "(III)Z")] 5

def k1m0 : Method := { name := "<init>", desc := "()V", sig := { parameters := [], returnType := none }, accessFlags := 1, code := none }
def k1c1 : Code := { maxStack := 6, maxLocals := 12, code := code, exceptionTable := #[], attributes := #[] }
def k1m1 : Method := { name := "law", desc := "(III)Z", sig := { parameters := [.int, .int, .int], returnType := some .boolean }, accessFlags := 9, code := some k1c1 }
def k1c2 : Code := { maxStack := 2, maxLocals := 1, code := method_3_code, exceptionTable := #[], attributes := #[] }
def k1m2 : Method := { name := "cont", desc := "(I)Z", sig := { parameters := [.int], returnType := some .boolean }, accessFlags := 10, code := some k1c2 }
def k1c3 : Code := { maxStack := 3, maxLocals := 7, code := method_4_code, exceptionTable := #[], attributes := #[] }
def k1m3 : Method := { name := "expected", desc := "(IIIII)I", sig := { parameters := [.int, .int, .int, .int, .int], returnType := some .int }, accessFlags := 10, code := some k1c3 }
/-- com/example/loomtrace/loomtrace/Utf8DecodePinLaw -/
def k1 : Class := { plain "com/example/loomtrace/loomtrace/Utf8DecodePinLaw" (some 0) with
  accessFlags := 49
  interfaces := #[]
  cf := some (fileOf pool1 14 #[] #[{ accessFlags := 1, nameIndex := 5, descriptorIndex := 6, attributes := #[] }, { accessFlags := 9, nameIndex := 26, descriptorIndex := 27, attributes := #[] }, { accessFlags := 10, nameIndex := 21, descriptorIndex := 22, attributes := #[] }, { accessFlags := 10, nameIndex := 17, descriptorIndex := 18, attributes := #[] }] 49 2 #[] #[])
  fields := #[]
  methods := #[k1m0, k1m1, k1m2, k1m3]
  instanceTypes := #[]
  staticTypes := #[]
  resolved := Array.replicate 33 none
  statics := none }

def pool2 : Array CpInfo := pool [(2, .class_ 4), (1, u "java/lang/Object"), (0, u "<init>"), (0, u "()V"), (0, .class_ 8), (0, u "com/example/loomtrace/loomtrace/Utf8"), (0, .integer 65536), (2, .integer 55296), (0, .integer 57343), (0, .integer 1114111), (2, u "decode"), (0, u "([BII)I"), (6, u "BYTE_ORDER_MARK"), (0, u "[B"), (0, u "MALFORMED"), (0, u "I")] 11

def k2m0 : Method := { name := "<init>", desc := "()V", sig := { parameters := [], returnType := none }, accessFlags := 2, code := none }
def k2c1 : Code := { maxStack := 3, maxLocals := 8, code := prog_102_method_2_code, exceptionTable := #[], attributes := #[] }
def k2m1 : Method := { name := "decode", desc := "([BII)I", sig := { parameters := [(.array .byte), .int, .int], returnType := some .int }, accessFlags := 8, code := some k2c1 }
/-- com/example/loomtrace/loomtrace/Utf8 -/
def k2 : Class := { plain "com/example/loomtrace/loomtrace/Utf8" (some 0) with
  accessFlags := 48
  interfaces := #[]
  cf := some (fileOf pool2 7 #[] #[{ accessFlags := 2, nameIndex := 5, descriptorIndex := 6, attributes := #[] }, { accessFlags := 8, nameIndex := 17, descriptorIndex := 18, attributes := #[] }] 48 2 #[] #[{ accessFlags := 24, nameIndex := 27, descriptorIndex := 28, attributes := #[] }, { accessFlags := 24, nameIndex := 25, descriptorIndex := 26, attributes := #[] }])
  fields := #[{ name := "MALFORMED", type := .int, accessFlags := 24, slot := 0, constantValue := 0 }, { name := "BYTE_ORDER_MARK", type := (.array .byte), accessFlags := 24, slot := 1, constantValue := 0 }]
  methods := #[k2m0, k2m1]
  instanceTypes := #[]
  staticTypes := #[.int, (.array .byte)]
  resolved := Array.replicate 40 none
  statics := none }

def pool3 : Array CpInfo := pool [(1, u "java/lang/Cloneable"), (0, .class_ 1), (0, u "java/lang/Object"), (0, .class_ 3)] 3

/-- java/lang/Cloneable -/
def k3 : Class := { plain "java/lang/Cloneable" (some 0) with
  accessFlags := 1537
  interfaces := #[]
  cf := some (fileOf pool3 2 #[] #[] 1537 4 #[] #[])
  fields := #[]
  methods := #[]
  instanceTypes := #[]
  staticTypes := #[]
  resolved := Array.replicate 8 none
  statics := none }

def pool4 : Array CpInfo := pool [(1, u "java/io/Serializable"), (0, .class_ 1), (0, u "java/lang/Object"), (0, .class_ 3)] 3

/-- java/io/Serializable -/
def k4 : Class := { plain "java/io/Serializable" (some 0) with
  accessFlags := 1537
  interfaces := #[]
  cf := some (fileOf pool4 2 #[] #[] 1537 4 #[] #[])
  fields := #[]
  methods := #[]
  instanceTypes := #[]
  staticTypes := #[]
  resolved := Array.replicate 8 none
  statics := none }

/-- the primitive byte -/
def k5 : Class := { plain "byte" none with kind := .primitive 'B', accessFlags := 0x411 }
/-- [B -/
def k6 : Class := { plain "[B" (some 0) with kind := .array 5 .byte, interfaces := #[3, 4], accessFlags := 1041 }

/-- the primitive int -/
def k7 : Class := { plain "int" none with kind := .primitive 'I', accessFlags := 0x411 }
/-- [I -/
def k8 : Class := { plain "[I" (some 0) with kind := .array 7 .int, interfaces := #[3, 4], accessFlags := 1041 }

def heap : Heap := #[]
def classes : Array Class := #[k0, k1, k2, k3, k4, k5, k6, k7, k8]
def interned : List (Array UInt16 × Addr) := []
def slotsUsed : Nat := 0
def theMethod : MethodId := ⟨1, 1⟩
def args0 : Array Value := #[.int 5, .int 6, .int 7]
def aboutOver (below : List Frame) : State where
  vm := { classes := classes, interned := interned.toArray }
  heap := heap
  slotsUsed := slotsUsed
  threads := #[{ frames := .invoking theMethod args0 :: below }]
def below0 : List Frame := [.native { method := ⟨0, 0⟩, args := #[] }]
def about1 : State := aboutOver below0
def p0 : Program := .bare "" "" ""
def e0 : Env := launch0.env 0 0 0
theorem w_frames : about1.frames = Frame.invoking theMethod args0 :: below0 := rfl
set_option maxRecDepth 65536 in
theorem w_args : argsFit about1.vm theMethod args0 = true := by decide +kernel
set_option maxRecDepth 65536 in
theorem w_heap : heapFits about1 = true := by decide +kernel
set_option maxRecDepth 65536 in
theorem w_runnable : about1.curStatus? = some .runnable := by decide +kernel
set_option maxRecDepth 65536 in
theorem w_alone : about1.alone = true := by decide +kernel
set_option maxRecDepth 65536 in
theorem w_named : about1.methodNamed? x = some theMethod := by decide +kernel
set_option maxRecDepth 65536 in
theorem w_hears : about1.hears theMethod below0 = true := by decide +kernel
set_option maxRecDepth 65536 in
theorem w_ripe : about1.ripe theMethod args0 below0 = true := by decide +kernel
theorem w_running : about1.status = .running := rfl
set_option maxRecDepth 65536 in
theorem w_room : about1.hasRoom e0.platform room_1 = true :=
  launch0.hasRoom_least _ room_1 (by decide +kernel) (by decide +kernel) (by decide +kernel) (by decide +kernel) (by decide +kernel) (by decide +kernel)
theorem allAtoms_all (ts : List Jvm.Cond) (a : Array Jvm.Value) (st : Jvm.State) : (allAtoms ts).before a st = ts.all (fun c => c.before a st) := by
  induction ts with
  | nil => rfl
  | cons c t ih =>
    show (Jvm.Cond.and c (allAtoms t)).before a st = _
    rw [Jvm.Cond.before_and, ih, List.all_cons]
def words1 : List Jvm.Cond := Jvm.Cond.code x code maxLocals ret :: tables_1
/-- a 'code' word, met by the world's own term for the bytes: nothing is compared byte by byte -/
theorem code_word {y : MethodName} {bytes : ByteArray} {mx : Nat} {rt : Option FieldType} {a : Array Value} {s : State} {m : MethodId} {meth : Method} {c : Code} (h1 : s.methodNamed? y = some m) (h2 : s.vm.method? m = some meth) (h3 : meth.code = some c) (h4 : c.code = bytes)
    (h5 : (c.maxLocals == mx && c.exceptionTable.isEmpty && decide (c.maxStack ≤ mostOperands) && decide (meth.sig.returnType = rt) && !meth.locks && decide (parseMethodDescriptor y.desc = some meth.sig)) = true) : (Jvm.Cond.code y bytes mx rt).before a s = true := by
  simp only [Bool.and_eq_true, beq_iff_eq, Bool.not_eq_true', decide_eq_true_eq] at h5
  obtain ⟨⟨⟨⟨⟨g1, g2⟩, g3⟩, g4⟩, g5⟩, g6⟩ := h5
  simp [Cond.before, Cond.holds, Cond.value, h1, h2, h3, h4, g1, g2, g3, g4, g5, g6]
def isCode : Jvm.Cond → Bool
  | .code _ _ _ _ => true
  | _ => false
theorem all_split {L : List Jvm.Cond} {P : Jvm.Cond → Bool} (h1 : L.all (fun c => isCode c || P c) = true) (h2 : ∀ c ∈ L.filter isCode, P c = true) : L.all P = true := by
  refine List.all_eq_true.mpr fun c hc => ?_
  have h := List.all_eq_true.mp h1 c hc
  rcases Bool.eq_false_or_eq_true (isCode c) with hi | hi
  · exact h2 c (List.mem_filter.mpr ⟨hc, hi⟩)
  · simpa [hi] using h
set_option maxRecDepth 65536 in
theorem w_c0 : (Jvm.Cond.code x code maxLocals ret).before args0 about1 = true := code_word (m := ⟨1, 1⟩) (meth := k1m1) (c := k1c1) (by decide +kernel) rfl rfl rfl (by decide +kernel)
set_option maxRecDepth 65536 in
theorem w_c1 : (Jvm.Cond.code ({ cls := "com/example/loomtrace/loomtrace/Utf8", name := "decode", desc := "([BII)I" } : Jvm.MethodName) prog_102_method_2_code (8 : Nat) (Option.some Jvm.ClassFile.FieldType.int)).before args0 about1 = true := code_word (m := ⟨2, 1⟩) (meth := k2m1) (c := k2c1) (by decide +kernel) rfl rfl rfl (by decide +kernel)
set_option maxRecDepth 65536 in
theorem w_c2 : (Jvm.Cond.code ({ cls := "com/example/loomtrace/loomtrace/Utf8DecodePinLaw", name := "expected", desc := "(IIIII)I" } : Jvm.MethodName) method_4_code (7 : Nat) (Option.some Jvm.ClassFile.FieldType.int)).before args0 about1 = true := code_word (m := ⟨1, 3⟩) (meth := k1m3) (c := k1c3) (by decide +kernel) rfl rfl rfl (by decide +kernel)
set_option maxRecDepth 65536 in
theorem w_c3 : (Jvm.Cond.code ({ cls := "com/example/loomtrace/loomtrace/Utf8DecodePinLaw", name := "cont", desc := "(I)Z" } : Jvm.MethodName) method_3_code (1 : Nat) (Option.some Jvm.ClassFile.FieldType.boolean)).before args0 about1 = true := code_word (m := ⟨1, 2⟩) (meth := k1m2) (c := k1c2) (by decide +kernel) rfl rfl rfl (by decide +kernel)
def codes1 : List Jvm.Cond := [Jvm.Cond.code x code maxLocals ret, Jvm.Cond.code ({ cls := "com/example/loomtrace/loomtrace/Utf8", name := "decode", desc := "([BII)I" } : Jvm.MethodName) prog_102_method_2_code (8 : Nat) (Option.some Jvm.ClassFile.FieldType.int), Jvm.Cond.code ({ cls := "com/example/loomtrace/loomtrace/Utf8DecodePinLaw", name := "expected", desc := "(IIIII)I" } : Jvm.MethodName) method_4_code (7 : Nat) (Option.some Jvm.ClassFile.FieldType.int), Jvm.Cond.code ({ cls := "com/example/loomtrace/loomtrace/Utf8DecodePinLaw", name := "cont", desc := "(I)Z" } : Jvm.MethodName) method_3_code (1 : Nat) (Option.some Jvm.ClassFile.FieldType.boolean)]
set_option maxRecDepth 65536 in
theorem codes_eq : words1.filter isCode = codes1 := rfl
theorem w_codes : ∀ c ∈ words1.filter isCode, c.before args0 about1 = true := by
  rw [codes_eq]
  intro c hc
  simp only [codes1, List.mem_cons, List.not_mem_nil, or_false] at hc
  rcases hc with rfl | rfl | rfl | rfl
  · exact w_c0
  · exact w_c1
  · exact w_c2
  · exact w_c3
set_option maxRecDepth 65536 in
theorem w_t1 : words1.all (fun c => isCode c || c.before args0 about1) = true := by decide +kernel
theorem w_tables : (allAtoms (Jvm.Cond.code x code maxLocals ret :: tables_1)).before args0 about1 = true := by
  rw [allAtoms_all]
  show words1.all (fun c => c.before args0 about1) = true
  refine all_split ?_ w_codes
  rw [w_t1]
set_option maxRecDepth 65536 in
theorem w_case : (Jvm.Cond.and given_1 narrow_1).before args0 about1 = true := by decide +kernel
theorem w_applies : (headSpec (Jvm.Cond.code x code maxLocals ret :: tables_1) room_1).applies x e0.platform about1 = true :=
  (Spec.applies_iff w_frames).mpr ⟨w_running, w_runnable, w_alone, w_named, w_hears, w_ripe, w_room, w_tables⟩
theorem atStart : AtStart classFile x code maxLocals ret World_1 tables_1 room_1 Calls_1 rest_1 Pre_1 launch0 p0 e0 about1 theMethod args0 below0 :=
  ⟨lists_1, trivial, launch0.admits_env _ _ _, launch0.least_env, fairChoices_fair.cas, fairChoices_fair.clock, w_frames, w_args, w_heap, w_applies, trivial, trivial, w_case⟩
end start1
theorem witness_1 : WitnessClaimed_1 := ⟨start1.p0, start1.e0, start1.about1, start1.theMethod, start1.args0, start1.below0, start1.atStart⟩
end Jvm.Pilot.@@N@@
